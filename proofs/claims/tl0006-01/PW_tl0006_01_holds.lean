import PyProof.Rows.All
import Wide.All
import OpenK.AllK
import Wide.FinOn
import PySem.Challenge.RW_tl0006_01
open PySem PySem.W PySem.W.X PyProof.Rows
set_option Elab.async false
set_option maxRecDepth 100000
set_option maxHeartbeats 0
set_option linter.all false
set_option genInjectivity false
set_option genSizeOf false
set_option bootstrap.genMatcherCode false
namespace Mine
noncomputable def zhd : {P : Prop // P → PySem.Challenge.rw_tl0006_01.Holds} := ⟨_, fun walk => by
 refine (fun (_ : type_of% walk) => ?g) ?hc
 rotate_left
 exact walk
 w_on; o_law
 have : OfNat Nat 14 := ⟨14⟩
 z_head
 w_witness2⟩
noncomputable def noLim (o : Obj) : Bool := match o with
 | ⟨_, _, d, _⟩ => match d with
  | .dict es _ => match es.toList with
   | [] => true
   | _ :: _ => false
  | _ => false
theorem noLim_ok {h : Heap} {o : Obj} (e : h.get? cStatics = some o) (q : noLim o = true) : h.NoLimit := by
 obtain ⟨c, d, dt, sl⟩ := o
 cases dt with
 | dict es ep =>
  obtain ⟨es⟩ := es
  cases es with
  | nil => exact ⟨fun _ => none, ⟨_, #[], ep, e, rfl, by intro x hx; simp at hx, fun _ => rfl⟩, rfl⟩
  | cons x r => cases q
 | _ => cases q
noncomputable def bnd {α β : Type} (m : Sem α) (f : α → Sem β) : Sem β := PySem.W.R.bindR m f
theorem bnd_eq {α β : Type} (m : Sem α) (f : α → Sem β) : bnd m f = (m >>= f) := by
 unfold bnd
 rw [← PySem.W.R.bindR_eq]
 rfl
section
variable {M : Model} {Γ : Ctx} {α β : Type}
noncomputable def Le {α : Type} (M : Model) (Γ : Ctx) (t t' : Sem α) : Prop := ∀ (Q : α → Pos → Shared → Prop) (E : Value → Pos → Shared → Prop) p s, Sem.wp M Γ t Q E p s → Sem.wp M Γ t' Q E p s
theorem Le.refl (t : Sem α) : Le M Γ t t := fun _ _ _ _ z => z
theorem Le.un {t : Sem α} (w : String) : Le M Γ (.unsupported w) t := fun _ _ _ _ z => by cases z
theorem Le.bind {m m' : Sem α} {f g : α → Sem β} (h₀ : Le M Γ m m') (h : ∀ a, Le M Γ (f a) (g a)) : Le M Γ (m >>= f) (m' >>= g) := by
 intro Q E p s z
 rw [Sem.wp_bind'] at z ⊢
 exact h₀ _ _ _ _ (Sem.wp_mono M Γ _ (fun a p s z => h a _ _ _ _ z) (fun _ _ _ h => h) p s z)
theorem Le.to {m : Sem α} {f g : α → Sem β} (h : ∀ a, Le M Γ (f a) (g a)) : Le M Γ (m >>= f) (m >>= g) := Le.bind (Le.refl _) h
theorem Le.skip {c : Sem Unit} {m : Sem β} {f : Unit → Sem β} (hc : Le M Γ (.pure ()) c) (h : Le M Γ m (f ())) : Le M Γ m (c >>= f) := by
 intro Q E p s z
 rw [Sem.wp_bind']
 exact hc _ _ _ _ (by rw [Sem.wp_pure]; exact h _ _ _ _ z)
theorem Le.leaf {a : α} {f : α → Sem β} {t : Sem β} (h : Le M Γ t (f a)) : Le M Γ t (Sem.pure a >>= f) := by
 intro Q E p s z
 rw [Sem.wp_bind', Sem.wp_pure]
 exact h _ _ _ _ z
theorem Le.holding {vs : List Value} {m m' : Sem α} (h : Le M Γ m m') : Le M Γ (holding vs m) (holding vs m') := by
 intro Q E p s z
 rw [Sem.wp_holding] at z ⊢
 exact h _ _ _ _ z
theorem Le.onRaise {m m' : Sem α} {k : Value → Sem Unit} (h : Le M Γ m m') : Le M Γ (m.onRaise k) (m'.onRaise k) := by
 intro Q E p s z
 rw [Sem.wp_onRaise] at z ⊢
 exact h _ _ _ _ z
end
structure Room (A : Around) (Γ : Ctx) : Prop where
 mem : Γ.In A
 depth : A.depth < recursionLimit
 units : A.units < cLine
noncomputable def enterQ : Sem Unit := .load cStatics none fun o => match noLim o with
 | true => .pure ()
 | false => .unsupported "mine:limit"
theorem enterQ_le {prog : Program} {w : World} {Γ : Ctx} {A : Around} (R : Room A Γ) : Le (model prog w) Γ enterQ enterFrame := by
 intro Q E p s z
 unfold enterQ at z
 rw [Sem.wp_load] at z
 obtain ⟨o, ho, z⟩ := z
 split at z
 ·rename_i q
  rw [Sem.wp_pure] at z
  obtain ⟨mc, hns, hnone⟩ := noLim_ok ho q
  have hsum : ((((Γ.code, p) :: Γ.below).map (·.1)).map (·.frames)).sum + ((((Γ.code, p) :: Γ.below).map (·.1)).filter Code.isCreation).length < recursionLimit := by
   have hge := frameCount_ge ((Γ.code, p) :: Γ.below)
   rw [frameCount_cons] at hge
   have := R.mem.2.1
   have := R.depth
   lia
  have near := not_nearTheLimit (p := p) R.mem R.depth
  simp only [enterFrame, currentRecursionLimit, Sem.wp_bind']
  show Sem.wp _ Γ (nsGet cStatics "sys.recursionlimit") _ _ p s
  rw [Sem.wp_nsGet _ Γ _ p s hns, hnone]
  show Sem.wp _ Γ (if nearTheLimitUnderAClaim (((Γ.code, p) :: Γ.below).map (·.1)) (((((Γ.code, p) :: Γ.below).map (·.1)).map (·.frames)).sum + ((((Γ.code, p) :: Γ.below).map (·.1)).filter Code.isCreation).length) recursionLimit = true then _ else _) _ _ p s
  rw [near, if_neg Bool.false_ne_true]
  show Sem.wp _ Γ (if ((((Γ.code, p) :: Γ.below).map (·.1)).map (·.frames)).sum ≥ recursionLimit then _ else _) _ _ p s
  rw [if_neg (by lia)]
  show Sem.wp _ Γ (if ((((Γ.code, p) :: Γ.below).map (·.1)).map (·.frames)).sum + ((((Γ.code, p) :: Γ.below).map (·.1)).filter Code.isCreation).length ≥ recursionLimit then _ else _) _ _ p s
  rw [if_neg (by lia)]
  exact z
 ·cases z
theorem roomFor_le {prog : Program} {w : World} {Γ : Ctx} {A : Around} (R : Room A Γ) (what : String) (vs : List Value) : Le (model prog w) Γ (.pure ()) (cRoomFor what vs) := by
 intro Q E p s z
 rw [Sem.wp_pure] at z
 exact Sem.wp_cRoomFor what vs (Nat.lt_of_le_of_lt R.mem.2.2.2.2 R.units) z
noncomputable def richQ (op : CmpOp) (a b : Value) : Sem Value := Fast.tw17359229931016689406 [a, b] (match Fast.tw13092491172507696223 op a b with
 | some _ => .unsupported "mine:rich"
 | none => match Fast.tw363932546726248868 op with
  | (_, f, _) => bnd (Fast.tw14684505520029207082 a) fun ta => bnd (Fast.tw14684505520029207082 b) fun tb => match ta != tb with
   | true => .unsupported "mine:rich"
   | false => bnd (Fast.tw3989567798202555795 a f b) fun v => match v with
    | some v => .pure v
    | none => .unsupported "mine:rich")
theorem richQ_le {prog : Program} {w : World} {Γ : Ctx} {A : Around} (R : Room A Γ) (op : CmpOp) (a b : Value) : Le (model prog w) Γ (richQ op a b) (richCompare op a b) := by
 unfold richQ richCompare
 rw [← Fast.te17359229931016689406, ← Fast.te13092491172507696223, ← Fast.te14684505520029207082, ← Fast.te3989567798202555795, show Fast.tw363932546726248868 = cmpInfo from by kernel_rfl]
 refine Le.holding (Le.skip (roomFor_le R "comparison" [a, b]) ?_)
 cases oneThing? op a b with
 | some v => exact Le.un _
 | none =>
  show Le _ _ (match cmpInfo op with | (_, f, _) => _) (match cmpInfo op with | (_, f, _) => _)
  obtain ⟨sym, f, r⟩ := cmpInfo op
  simp only [bnd_eq]
  refine Le.to fun ta => Le.to fun tb => ?_
  cases q : ta != tb with
  | true => exact Le.un _
  | false =>
   simp only [Bool.false_eq_true, if_false]
   refine Le.leaf ?_
   simp only [Bool.false_eq_true, if_false]
   refine Le.to fun v => ?_
   cases v with
   | some v => exact Le.refl _
   | none => exact Le.un _
noncomputable def testQ (pos : Pos) (left : Value) (op : CmpOp) (r : Sem Value) : Sem Bool :=
 bnd (Fast.tw17359229931016689406 [left] r) fun rv => bnd (standAt pos) fun _ =>
  bnd (Fast.tw8004119333741010377 [left, rv] (richQ op left rv)) fun c => Fast.tw17359229931016689406 [c] (Fast.tw15245631507167962100 c)
theorem testQ_le {prog : Program} {w : World} {Γ : Ctx} {A : Around} (R : Room A Γ) (pos : Pos) (left : Value) (op : CmpOp) (r : Sem Value) (h : op = .Eq ∨ op = .NotEq) :
  Le (model prog w) Γ (testQ pos left op r) (testChain pos left [op] [r]) := by
 unfold testQ
 rw [← Fast.te17359229931016689406, ← Fast.te8004119333741010377, ← Fast.te15245631507167962100]
 simp only [bnd_eq]
 show Le _ _ _ (holding [left] r >>= fun rv => standAt pos >>= fun _ => operate [left, rv] (compareOp op left rv) >>= fun c => holding [c] (truthy c))
 refine Le.to fun rv => Le.to fun _ => Le.bind ?_ fun c => Le.refl _
 unfold operate
 refine Le.bind (Le.holding ?_) fun r => Le.refl _
 rcases h with rfl | rfl
 ·exact richQ_le R .Eq left rv
 ·exact richQ_le R .NotEq left rv
noncomputable def eqOp (op : CmpOp) : Bool := match op with
 | .Eq => true
 | .NotEq => true
 | _ => false
theorem eqOp_ok {op : CmpOp} (h : eqOp op = true) : op = .Eq ∨ op = .NotEq := by
 cases op <;> first | exact .inl rfl | exact .inr rfl | cases h
noncomputable def isTrue1 (test : Expr) (env : Env) : Sem Bool := match test with
 | .Compare left ops cs pos => match ops with
  | [op] => match cs with
   | [c] => match eqOp op with
    | true => bnd (Fast.tw14044960220447912780 left env) fun l => testQ pos l op (Fast.tw10513115210890433525 op c (Fast.tw14044960220447912780 c env))
    | false => Fast.tw15418851999007992765 test env (Fast.tw14044960220447912780 test env)
   | _ => Fast.tw15418851999007992765 test env (Fast.tw14044960220447912780 test env)
  | _ => Fast.tw15418851999007992765 test env (Fast.tw14044960220447912780 test env)
 | _ => Fast.tw15418851999007992765 test env (Fast.tw14044960220447912780 test env)
theorem isTrue1_le {prog : Program} {w : World} {Γ : Ctx} {A : Around} (R : Room A Γ) (test : Expr) (env : Env) : Le (model prog w) Γ (isTrue1 test env) (isTrue test env (eval test env)) := by
 have plain : ∀ t, t = Fast.tw15418851999007992765 test env (Fast.tw14044960220447912780 test env) → Le (model prog w) Γ t (isTrue test env (eval test env)) := by
  intro t e
  rw [e, ← Fast.te15418851999007992765, ← Fast.te14044960220447912780]
  exact Le.refl _
 cases test with
 | Compare left ops cs pos =>
  cases ops with
  | nil => exact plain _ rfl
  | cons op ops =>
   cases ops with
   | cons _ _ => exact plain _ rfl
   | nil =>
    cases cs with
    | nil => exact plain _ rfl
    | cons c cs =>
     cases cs with
     | cons _ _ => exact plain _ rfl
     | nil =>
      cases q : eqOp op with
      | false =>
       refine plain _ ?_
       unfold isTrue1
       simp only [q]
      | true =>
       have hop := eqOp_ok q
       unfold isTrue1
       simp only [q]
       rw [← Fast.te14044960220447912780, ← Fast.te10513115210890433525, bnd_eq, arm_isTrue_Compare]
       exact Le.to fun l => testQ_le R pos l op _ hop
 | _ => exact plain _ rfl
noncomputable def allTrue1 (op : BoolOp) (env : Env) : List Expr → Sem Bool
 | [] => .pure (op == .And)
 | x :: rest => bnd (isTrue1 x env) fun v => match op with
  | .And => match v with
   | false => .pure false
   | true => allTrue1 op env rest
  | .Or => match v with
   | true => .pure true
   | false => allTrue1 op env rest
theorem allTrue1_le {prog : Program} {w : World} {Γ : Ctx} {A : Around} (R : Room A Γ) (op : BoolOp) (env : Env) : ∀ l, Le (model prog w) Γ (allTrue1 op env l) (allTrue op l env)
 | [] => Le.refl _
 | x :: rest => by
  unfold allTrue1
  rw [arm_allTrue_cons, bnd_eq]
  refine Le.bind (isTrue1_le R x env) fun v => ?_
  cases op <;> cases v <;> first | exact Le.refl _ | exact allTrue1_le R _ env rest
noncomputable def isTrueQ (test : Expr) (env : Env) : Sem Bool := match test with
 | .BoolOp op values _ => allTrue1 op env values
 | _ => isTrue1 test env
theorem isTrueQ_le {prog : Program} {w : World} {Γ : Ctx} {A : Around} (R : Room A Γ) (test : Expr) (env : Env) : Le (model prog w) Γ (isTrueQ test env) (isTrue test env (eval test env)) := by
 unfold isTrueQ
 split
 ·exact allTrue1_le R _ env _
 ·exact isTrue1_le R test env
noncomputable def genX (e : Expr) (gens : List Comprehension) (scope : Scope) (pos : Pos) (env : Env) : Sem Value :=
 bnd (Fast.tw18100340678103251363 gens env) fun x => bnd (standAt (firstIterPos gens pos)) fun _ => bnd (Fast.tw11392484809677674534 (firstAsync gens) (clausesOf e) env x) fun x =>
  match firstAsync gens with
  | true => .unsupported "mine:gen"
  | false => bnd (Fast.tw17359229931016689406 [x] (Fast.tw8711993805878244202 x)) fun it => bnd enterQ fun _ =>
   bnd (Fast.tw14069538253670106520 scope env) fun cl => bnd (Fast.tw9492743126541576920 env pos (env.qual ++ ⟨⟨[60, 103, 101, 110, 101, 120, 112, 114, 62]⟩⟩) scope) fun code => bnd (Fast.tw6600643334278800223 env.globals env.builtins) fun bi =>
   bnd (Fast.tw11113344188204177931 scope env.globals cl [(⟨⟨[46, 48]⟩⟩, it)] (env.qual ++ ⟨⟨[60, 103, 101, 110, 101, 120, 112, 114, 62, 46]⟩⟩) none code none bi) fun cenv =>
   match scope.isCoroutine with
   | true => .unsupported "mine:gen"
   | false => Fast.tw2426001476595277715 (.compStart e 0 it .none cenv) ⟨⟨[60, 103, 101, 110, 101, 120, 112, 114, 62]⟩⟩ (env.qual ++ ⟨⟨[60, 103, 101, 110, 101, 120, 112, 114, 62]⟩⟩)
theorem genX_le {prog : Program} {w : World} {Γ : Ctx} {A : Around} (R : Room A Γ) (elt : Expr) (gens : List Comprehension) (scope : Scope) (pos : Pos) (env : Env) :
  Le (model prog w) Γ (genX (.GeneratorExp elt gens scope pos) gens scope pos env) (eval (.GeneratorExp elt gens scope pos) env) := by
 unfold genX
 rw [arm_eval_GeneratorExp, ← Fast.te18100340678103251363, ← Fast.te11392484809677674534, ← Fast.te17359229931016689406, ← Fast.te8711993805878244202, ← Fast.te14069538253670106520,
  ← Fast.te9492743126541576920, ← Fast.te6600643334278800223, ← Fast.te11113344188204177931, ← Fast.te2426001476595277715]
 simp only [bnd_eq]
 refine Le.to fun x => Le.to fun _ => Le.to fun x => ?_
 cases firstAsync gens with
 | true => exact Le.un _
 | false =>
  refine Le.to fun it => Le.bind (enterQ_le R) fun _ => Le.to fun cl => Le.to fun code => Le.to fun bi => Le.to fun cenv => ?_
  cases scope.isCoroutine with
  | true => exact Le.un _
  | false => exact Le.refl _
noncomputable abbrev veq (a b : Value) : Bool := @BEq.beq Value (@instBEqOfDecidableEq Value Fast.tw7966671052430208091) a b
noncomputable def NoComp (M : Model) (Γ : Ctx) : Prop := ∀ (Q : List Env → Pos → Shared → Prop) (E : Value → Pos → Shared → Prop) p s, Q [] p s → Sem.wp M Γ comprehensionsAround Q E p s
theorem noComp {M : Model} {Γ : Ctx} {c : Code} {env : Env} (hc : Γ.code = c) (h1 : c.env? = some env) (h2 : c.isInlined = false) (h3 : c.handsOn none = false) : NoComp M Γ := by
 intro Q E p s z
 have e : ∀ p, pastTheWaiting ((Γ.code, p) :: Γ.below) = (c, p) :: pastTheWaiting.go false (some c) Γ.below := by
  intro p
  rw [hc]
  show (if c.handsOn none = true then _ else _) = _
  rw [h3]
  rfl
 unfold comprehensionsAround callersCodes
 rw [Sem.wp_bind', Sem.wp_bind']
 show Sem.wp M Γ (if (List.findSome? (·.env?) (((Γ.code, p) :: Γ.below).map (·.1))).map (·.frame) != (List.findSome? (·.env?) ((pastTheWaiting ((Γ.code, p) :: Γ.below)).map (·.1))).map (·.frame) then _ else _) _ _ p s
 rw [e p]
 have f1 : List.findSome? (·.env?) (((Γ.code, p) :: Γ.below).map (·.1)) = some env := by
  rw [hc]
  simp [h1]
 have f2 : List.findSome? (·.env?) (((c, p) :: pastTheWaiting.go false (some c) Γ.below).map (·.1)) = some env := by simp [h1]
 rw [f1, f2]
 rw [if_neg (by simp)]
 show Q (List.filterMap (·.env?) (List.takeWhile (·.isInlined) (List.filter (·.env?.isSome) (((c, p) :: pastTheWaiting.go false (some c) Γ.below).map (·.1))))) p s
 have f3 : List.filterMap (·.env?) (List.takeWhile (·.isInlined) (List.filter (·.env?.isSome) (((c, p) :: pastTheWaiting.go false (some c) Γ.below).map (·.1)))) = [] := by simp [h1, h2]
 rw [f3]
 exact z
theorem Le.both {M : Model} {Γ : Ctx} {α : Type} {c : Prop} [d : Decidable c] {a b a' b' : Sem α} (h : Le M Γ a a') (g : Le M Γ b b') : Le M Γ (ite c a b) (ite c a' b') := by
 cases d with
 | isTrue _ => exact h
 | isFalse _ => exact g
theorem Le.pos {M : Model} {Γ : Ctx} {α : Type} {c : Prop} [d : Decidable c] {a a' b' : Sem α} (hc : c) (h : Le M Γ a a') : Le M Γ a (ite c a' b') := by
 rw [if_pos hc]
 exact h
theorem Le.via {M : Model} {Γ : Ctx} {α β : Type} {t : Sem α} {c : α} {m : Sem β} {f : α → Sem β} (hc : ∀ (Q : α → Pos → Shared → Prop) E p s, Q c p s → Sem.wp M Γ t Q E p s) (h : Le M Γ m (f c)) : Le M Γ m (t >>= f) := by
 intro Q E p s z
 rw [Sem.wp_bind']
 exact hc _ _ _ _ (h _ _ _ _ z)
theorem Le.leafP {M : Model} {Γ : Ctx} {α β : Type} {a : α} {f : α → Sem β} {t : Sem β} (h : Le M Γ t (f a)) : Le M Γ t (Bind.bind (Pure.pure a : Sem α) f) := Le.leaf h
noncomputable abbrev sapp (a b : Str) : Str := @HAppend.hAppend Str Str Str (@instHAppendOfAppend Str Fast.tw178013285451222756) a b
noncomputable def topOf (program : Program) (file : Str) := if (@BEq.beq Str (@instBEqOfDecidableEq Str Fast.sDec) program.main.file file) = true then some program.main
 else Option.map (fun x => x.snd.snd) (PySem.W.R.findR (fun x => match x with
  | (n, _, m) => (@BEq.beq Str (@instBEqOfDecidableEq Str Fast.sDec) m.file file).or (@BEq.beq Str (@instBEqOfDecidableEq Str Fast.sDec) (sapp (sapp ⟨⟨[60, 102, 114, 111, 122, 101, 110, 32]⟩⟩ n) ⟨⟨[62]⟩⟩) file)) program.modules)
noncomputable def superT (pos : Pos) (env : Env) (first : Arg) : Sem Value := bnd (rule "super.attribute-form") fun _ => bnd (standAt pos) fun _ => bnd (Fast.tw8468629109055619292 env ⟨⟨[115, 117, 112, 101, 114]⟩⟩) fun g =>
 bnd (Fast.tw8468629109055619292 env ⟨⟨[95, 95, 99, 108, 97, 115, 115, 95, 95]⟩⟩) fun cls => bnd (Fast.tw8468629109055619292 (Fast.tw8406491124035677375 env [] first.arg) first.arg) fun self =>
 bnd (Fast.tw10380811246957099773 cls) fun aType => if (veq g (Value.type PySem.W.SL.s4290257624100764138x5) && aType) = true then Fast.tw11478286150595567475 g [cls, self] else .unsupported "mine:super"
noncomputable def superQ (id : Str) (pos : Pos) (attr : Str) (env : Env) : Sem Value :=
 if (@bne Str (@instBEqOfDecidableEq Str Fast.sDec) id ⟨⟨[115, 117, 112, 101, 114]⟩⟩ || @BEq.beq Str (@instBEqOfDecidableEq Str Fast.sDec) attr ⟨⟨[95, 95, 99, 108, 97, 115, 115, 95, 95]⟩⟩ ||
  Fast.tw4777696345729990297 env ⟨⟨[115, 117, 112, 101, 114]⟩⟩ != some NameKind.globalImplicit || Fast.tw4777696345729990297 env ⟨⟨[95, 95, 99, 108, 97, 115, 115, 95, 95]⟩⟩ != some NameKind.free) = true then .unsupported "mine:super"
 else match env.func with
 | none => .unsupported "mine:super"
 | some f => if (Fast.tw4777696345729990297 env ⟨⟨[95, 95, 99, 108, 97, 115, 115, 95, 95]⟩⟩ != some NameKind.free) = true then .unsupported "mine:super"
  else bnd (Fast.tw16755525298939948312 (.ref f)) fun fd => match (fd.params.posonlyargs ++ fd.params.args).head? with
  | none => .unsupported "mine:super"
  | some first => bnd ask fun k => bnd (match env.code with
   | .none => .pure .none
   | c => Fast.tw6609576154772507232 c 2) fun x => match x with
   | .str file _ => match topOf k.program file with
    | none => .unsupported "mine:super"
    | some top => if (@List.lookup Str NameKind (@instBEqOfDecidableEq Str Fast.sDec) ⟨⟨[115, 117, 112, 101, 114]⟩⟩ top.scope.names).isSome = true then .unsupported "mine:super" else superT pos env first
   | _ => .unsupported "mine:super"
theorem superQ_le {M : Model} {Γ : Ctx} (hC : NoComp M Γ) (id : Str) (p0 pos : Pos) (attr : Str) (env : Env) (whole : Sem Value) : Le M Γ (superQ id pos attr env) (Fast.tw15487144857313948548 (.Call (.Name id p0) [] [] pos) attr env whole) := by
 unfold superQ Fast.tw15487144857313948548
 rw [← Fast.te12456147031677567982, ← Fast.te15056007747304108558]
 refine Le.both (Le.un _) ?_
 cases hf : env.func with
 | none => exact Le.un _
 | some f =>
  refine Le.pos (c := (some f).isSome = true) rfl ?_
  refine Le.leafP ?_
  show Le M Γ _ (match env.func with | some f => _ | x => _)
  rw [hf]
  simp only [bnd_eq]
  refine Le.both (Le.un _) (Le.to fun fd => ?_)
  show Le M Γ (match (fd.params.posonlyargs ++ fd.params.args).head? with | none => _ | some first => _) (match (fd.params.posonlyargs ++ fd.params.args).head? with | some first => _ | x => _)
  cases (fd.params.posonlyargs ++ fd.params.args).head? with
  | none => exact Le.un _
  | some first =>
   refine Le.to fun k => ?_
   refine Le.bind (Le.refl _) fun x => ?_
   cases x with
   | str file tok =>
    show Le M Γ (match topOf k.program file with | none => _ | some top => _) (match topOf k.program file with | some top => _ | x => _)
    cases topOf k.program file with
    | none => exact Le.un _
    | some top =>
     refine Le.both (Le.un _) ?_
     unfold superT
     simp only [bnd_eq]
     refine Le.to fun _ => Le.to fun _ => Le.to fun g => Le.to fun cls => ?_
     rw [← Fast.te15119167023480647312]
     refine Le.via (c := []) (fun Q E p s z => hC Q E p s z) (Le.to fun self => Le.to fun aType => ?_)
     exact Le.both (Le.refl _) (Le.un _)
   | _ => exact Le.un _
noncomputable def callG (o : Expr) (name : Str) (apos : Pos) (g : Sem Value) (pos : Pos) (env : Env) : Sem Value :=
 bnd (Fast.tw15487144857313948548 o name env (Fast.tw14044960220447912780 o env)) fun ov => bnd (standAt apos.atName) fun _ =>
  bnd (Fast.tw17359229931016689406 [ov] (Fast.tw11328156115524847652 (Fast.tw17856382988213008342 1 [(false, .pure .none)] []) o env ov name)) fun fl => match fl with
  | (f, first) => bnd (Fast.tw6137100228056946695 (Fast.tw17856382988213008342 1 [(false, .pure .none)] []) o env apos pos) fun cp =>
   bnd (Fast.tw17359229931016689406 (f :: first) (bnd g fun v => .pure (⟨[v], []⟩ : Args))) fun a => bnd (standAt cp) fun _ => bnd (Fast.tw6818842538254311539 f) fun k => bnd (match k with
    | .frame => callMarked plainCall f (first ++ a.pos) a.kw
    | .boundFrame => callMarked callOfAMethodObject f (first ++ a.pos) a.kw
    | .machine => call f (first ++ a.pos) a.kw
    | _ => Fast.tw8004119333741010377 (f :: (first ++ a.pos) ++ a.kw.map (·.2)) (call f (first ++ a.pos) a.kw)) fun r =>
     bnd (Fast.tw17359229931016689406 [r] point) fun _ => .pure r
theorem args_le {M : Model} {Γ : Ctx} (f : Value) (g : Sem Value) : Le M Γ (g >>= fun v => Sem.pure (⟨[v], []⟩ : Args)) (evalArgs f true [(false, g)] []) := by
 intro Q E p s z
 rw [Sem.wp_bind'] at z
 unfold evalArgs
 simp only [Sem.wp_bind']
 show Sem.wp M Γ (spliced [(false, g)]) _ _ p s
 unfold spliced
 simp only [Sem.wp_bind']
 refine Sem.wp_mono M Γ _ (fun v p s z => ?_) (fun _ _ _ h => h) p s z
 rw [Sem.wp_pure] at z
 simp [spliced, evalAll, Sem.wp_holding]
 exact z
theorem callG_le {prog : Program} {w : World} {Γ : Ctx} {A : Around} (R : Room A Γ) (o : Expr) (name : Str) (apos pos : Pos) (env : Env) (elt : Expr) (gens : List Comprehension) (scope : Scope) (gp : Pos) :
  Le (model prog w) Γ (callG o name apos (genX (.GeneratorExp elt gens scope gp) gens scope gp env) pos env) (eval (.Call (.Attribute o name apos) [.GeneratorExp elt gens scope gp] [] pos) env) := by
 unfold callG
 rw [arm_eval_Call, ← Fast.te15487144857313948548, ← Fast.te14044960220447912780, ← Fast.te17359229931016689406, ← Fast.te11328156115524847652, ← Fast.te17856382988213008342,
  ← Fast.te6137100228056946695, ← Fast.te6818842538254311539, ← Fast.te8004119333741010377]
 simp only [bnd_eq]
 refine Le.to fun ov => Le.to fun _ => ?_
 show Le _ _ _ (methodCall o name apos pos env ov 1 [(false, eval (.GeneratorExp elt gens scope gp) env)] [])
 unfold methodCall
 refine Le.to fun fl => ?_
 obtain ⟨f, first⟩ := fl
 refine Le.to fun cp => ?_
 unfold callWith
 have hg : Le (model prog w) Γ (genX (.GeneratorExp elt gens scope gp) gens scope gp env >>= fun v => Sem.pure (⟨[v], []⟩ : Args)) (evalArgs f true [(false, eval (.GeneratorExp elt gens scope gp) env)] []) := by
  intro Q E p s z
  refine args_le f _ _ _ _ _ ?_
  exact Le.bind (genX_le R elt gens scope gp env) (fun _ => Le.refl _) _ _ _ _ z
 refine Le.bind (Le.holding hg) fun a => Le.to fun _ => Le.to fun k => ?_
 cases k with
 | frame => exact Le.refl _
 | boundFrame => exact Le.refl _
 | machine => exact Le.refl _
 | caller => exact Le.refl _
noncomputable def retG (v : Expr) (env : Env) : Option (Sem Value) := match v with
 | .Call f args kws pos => match f with
  | .Attribute o name apos => match args with
   | [g] => match kws with
    | [] => match g with
     | .GeneratorExp elt gens scope gp => some (callG o name apos (genX (.GeneratorExp elt gens scope gp) gens scope gp env) pos env)
     | _ => none
    | _ => none
   | _ => none
  | _ => none
 | _ => none
theorem retG_le {prog : Program} {w : World} {Γ : Ctx} {A : Around} (R : Room A Γ) {v : Expr} {env : Env} {t : Sem Value} (h : retG v env = some t) : Le (model prog w) Γ t (eval v env) := by
 cases v with
 | Call f args kws pos =>
  cases f with
  | Attribute o name apos =>
   cases args with
   | nil => cases h
   | cons g args =>
    cases args with
    | cons => cases h
    | nil =>
     cases kws with
     | cons => cases h
     | nil =>
      cases g with
      | GeneratorExp elt gens scope gp =>
       injection h with h
       subst h
       exact callG_le R o name apos pos env elt gens scope gp
      | _ => cases h
  | _ => cases h
 | _ => cases h
noncomputable def superCall (id : Str) (p0 sp : Pos) (name : Str) (apos pos : Pos) (env : Env) : Sem Value := bnd (superQ id sp name env) fun ov => bnd (standAt apos.atName) fun _ =>
 Fast.tw13401596951702201221 (.Call (.Name id p0) [] [] sp) name apos pos env ov 0 [] []
noncomputable def retS (v : Expr) (env : Env) : Option (Sem Value) := match v with
 | .Call f args kws pos => match f with
  | .Attribute o name apos => match o with
   | .Call n as ks sp => match n with
    | .Name id p0 => match args with
     | [] => match kws with
      | [] => match as with
       | [] => match ks with
        | [] => some (superCall id p0 sp name apos pos env)
        | _ => none
       | _ => none
      | _ => none
     | _ => none
    | _ => none
   | _ => none
  | _ => none
 | _ => none
theorem retS_le {M : Model} {Γ : Ctx} (hC : NoComp M Γ) {v : Expr} {env : Env} {t : Sem Value} (h : retS v env = some t) : Le M Γ t (eval v env) := by
 unfold retS at h
 split at h
 ·split at h
  ·split at h
   ·split at h
    ·split at h
     ·split at h
      ·split at h
       ·split at h
        ·injection h with h
         subst h
         unfold superCall
         rw [arm_eval_Call, ← Fast.te13401596951702201221]
         simp only [bnd_eq]
         refine Le.bind ?_ fun ov => Le.to fun _ => Le.refl _
         have := superQ_le (M := M) (Γ := Γ) hC
         rw [← Fast.te15487144857313948548] at this
         exact this _ _ _ _ _ _
        ·cases h
       ·cases h
      ·cases h
     ·cases h
    ·cases h
   ·cases h
  ·cases h
 ·cases h
noncomputable def execQ (s : Stmt) (env : Env) : Option (Sem Flow) := match s with
 | .If test body orelse pos => some (bnd (standAt pos) fun _ => bnd (isTrueQ test env) fun b => match b with
  | true => Fast.tw12563942051412417395 body env
  | false => Fast.tw12563942051412417395 orelse env)
 | .Return v pos => match v with
  | some v => match retG v env with
   | some t => some (bnd (standAt pos) fun _ => bnd t fun x => .pure (.ret x))
   | none => match retS v env with
    | some t => some (bnd (standAt pos) fun _ => bnd t fun x => .pure (.ret x))
    | none => none
  | none => none
 | .Expr v pos => match retS v env with
  | some t => some (bnd (standAt pos) fun _ => match interactive env with
   | true => .unsupported "mine:expr"
   | false => bnd (Fast.tw17223243974762974889 v none pos.line env) fun sw => match sw with
    | true => .unsupported "mine:expr"
    | false => bnd t fun x => Fast.tw12372662630863984472 v pos x)
  | none => none
 | _ => none
theorem execQ_le {prog : Program} {w : World} {Γ : Ctx} {A : Around} (R : Room A Γ) (hC : NoComp (model prog w) Γ) {s : Stmt} {env : Env} {t : Sem Flow} (h : execQ s env = some t) : Le (model prog w) Γ t (exec s env) := by
 cases s with
 | If test body orelse pos =>
  injection h with h
  subst h
  rw [arm_exec_If, ← Fast.te12563942051412417395]
  simp only [bnd_eq]
  refine Le.to fun _ => Le.bind (isTrueQ_le R test env) fun b => ?_
  cases b <;> exact Le.refl _
 | Return v pos =>
  cases v with
  | none => cases h
  | some v =>
   unfold execQ at h
   simp only at h
   split at h
   ·rename_i t' ht
    injection h with h
    subst h
    rw [arm_exec_Return]
    simp only [bnd_eq]
    refine Le.to fun _ => ?_
    show Le _ _ _ (eval v env >>= fun x => Sem.pure (Flow.ret x))
    exact Le.bind (retG_le R ht) fun _ => Le.refl _
   ·split at h
    ·rename_i t' ht
     injection h with h
     subst h
     rw [arm_exec_Return]
     simp only [bnd_eq]
     refine Le.to fun _ => ?_
     show Le _ _ _ (eval v env >>= fun x => Sem.pure (Flow.ret x))
     exact Le.bind (retS_le hC ht) fun _ => Le.refl _
    ·cases h
 | Expr v pos =>
  unfold execQ at h
  simp only at h
  split at h
  ·rename_i t' ht
   injection h with h
   subst h
   rw [arm_exec_Expr, ← Fast.te17223243974762974889, ← Fast.te12372662630863984472]
   simp only [bnd_eq]
   refine Le.to fun _ => ?_
   cases interactive env with
   | true => exact Le.un _
   | false =>
    refine Le.to fun sw => ?_
    cases sw with
    | true => exact Le.un _
    | false => exact Le.bind (retS_le hC ht) fun _ => Le.refl _
  ·cases h
 | _ => cases h
noncomputable def execsQ (env : Env) : List Stmt → Sem Flow
 | [] => .pure .next
 | s :: rest => bnd (match execQ s env with
  | some t => t
  | none => Fast.tw12563942051412417395 [s] env) fun f => match f with
  | .next => execsQ env rest
  | f => .pure f
theorem execsQ_le {prog : Program} {w : World} {Γ : Ctx} {A : Around} (R : Room A Γ) (hC : NoComp (model prog w) Γ) (env : Env) : ∀ l, Le (model prog w) Γ (execsQ env l) (execs l env)
 | [] => Le.refl _
 | s :: rest => by
  unfold execsQ
  rw [bnd_eq]
  have tail : ∀ f : Flow, Le (model prog w) Γ (match f with | .next => execsQ env rest | f => Sem.pure f) (match f with | .next => execs rest env | f => pure f) := by
   intro f
   cases f with
   | next => exact execsQ_le R hC env rest
   | _ => exact Le.refl _
  show Le _ _ _ (exec s env >>= fun f => match f with | .next => execs rest env | f => pure f)
  cases q : execQ s env with
  | some t => exact Le.bind (execQ_le R hC q) tail
  | none =>
   rw [← Fast.te12563942051412417395]
   intro Q E p s' z
   have z : Sem.wp _ Γ ((exec s env >>= fun f => match f with | .next => Sem.pure .next | f => pure f) >>= fun f => match f with | .next => execsQ env rest | f => Sem.pure f) Q E p s' := z
   rw [Sem.wp_bind', Sem.wp_bind'] at z
   rw [Sem.wp_bind']
   refine Sem.wp_mono _ Γ _ (fun f p s z => ?_) (fun _ _ _ h => h) p s' z
   refine tail f _ _ _ _ ?_
   cases f <;> exact z
noncomputable def funcQ (body : List Stmt) (env : Env) : Sem PySem.Fin := bnd point fun _ => bnd (PySem.W.R.onRaiseR (execsQ env body) (Fast.tw9442747609961115081 env)) fun f => match f with
 | .ret v => Fast.tw6905046200447255374 v
 | _ => Fast.tw6905046200447255374 .none
theorem funcQ_le {prog : Program} {w : World} {Γ : Ctx} {A : Around} (R : Room A Γ) (hC : NoComp (model prog w) Γ) (body : List Stmt) (env : Env) : Le (model prog w) Γ (funcQ body env) (denote table (.func body env)) := by
 unfold funcQ
 rw [← Fast.te9442747609961115081, ← PySem.W.R.onRaiseR_eq, ← Fast.te6905046200447255374]
 simp only [bnd_eq]
 show Le _ _ _ (point >>= fun _ => (execs body env).onRaise (leaving env) >>= fun f => match f with | .ret v => ret v | _ => ret .none)
 exact Le.to fun _ => Le.bind (Le.onRaise (execsQ_le R hC env body)) fun f => Le.refl _
noncomputable def tailR (env : Env) (x : Value) : Sem Unit := bnd (Fast.tw17872113653443481271 x env) fun _ => Fast.tw1623429502029203251 x
noncomputable def whileQ (test : Expr) (body orelse : List Stmt) (env : Env) : Sem PySem.Fin := PySem.W.R.onRaiseR (bnd (isTrueQ test env) fun b => match b with
 | true => bnd (Fast.tw12563942051412417395 body env) fun f => match f with
  | .next => .pure (.again (.whileLoop test body orelse env))
  | .cont => .pure (.again (.whileLoop test body orelse env))
  | .brk => .pure (.done .next)
  | .ret v => .pure (.done (.ret v))
 | false => bnd (Fast.tw12563942051412417395 orelse env) fun f => .pure (.done f)) (tailR env)
theorem whileQ_le {prog : Program} {w : World} {Γ : Ctx} {A : Around} (R : Room A Γ) (test : Expr) (body orelse : List Stmt) (env : Env) : Le (model prog w) Γ (whileQ test body orelse env) (denote table (.whileLoop test body orelse env)) := by
 unfold whileQ tailR
 rw [← PySem.W.R.onRaiseR_eq, ← Fast.te17872113653443481271, ← Fast.te1623429502029203251, ← Fast.te12563942051412417395]
 simp only [bnd_eq]
 show Le _ _ _ ((whileTurn test body orelse env).onRaise fun x => noteFrame x env >>= fun _ => theTreesLotGoes x)
 unfold whileTurn
 refine Le.onRaise (Le.bind (isTrueQ_le R test env) fun b => ?_)
 cases b with
 | true => exact Le.to fun f => by cases f <;> exact Le.refl _
 | false => exact Le.refl _
noncomputable def forQ (target : Expr) (it : Value) (body orelse : List Stmt) (env : Env) : Sem PySem.Fin := PySem.W.R.onRaiseR (bnd (standAt target.pos) fun _ =>
 bnd (PySem.W.R.onRaiseR (Fast.tw9404975358583537561 it) fun _ => standAt { target.pos with line := 0 }) fun x => match x with
 | none => .pure (.again (.block orelse env))
 | some v => bnd (Fast.tw1578499551869305889 target it v) fun _ => bnd (Fast.tw17772580674575903948 target env v) fun _ => bnd (execsQ env body) fun f => match f with
  | .next => .pure (.again (.forLoop target it body orelse env))
  | .cont => .pure (.again (.forLoop target it body orelse env))
  | .brk => .pure (.done .next)
  | .ret v => .pure (.done (.ret v))) (tailR env)
theorem forQ_le {prog : Program} {w : World} {Γ : Ctx} {A : Around} (R : Room A Γ) (hC : NoComp (model prog w) Γ) (target : Expr) (it : Value) (body orelse : List Stmt) (env : Env) : Le (model prog w) Γ (forQ target it body orelse env) (denote table (.forLoop target it body orelse env)) := by
 unfold forQ tailR
 rw [← PySem.W.R.onRaiseR_eq, ← Fast.te17872113653443481271, ← Fast.te1623429502029203251, ← Fast.te9404975358583537561, ← Fast.te1578499551869305889, ← Fast.te17772580674575903948]
 simp only [bnd_eq]
 show Le _ _ _ ((forTurn target it body orelse env).onRaise fun x => noteFrame x env >>= fun _ => theTreesLotGoes x)
 unfold forTurn
 refine Le.onRaise (Le.to fun _ => Le.to fun x => ?_)
 cases x with
 | none => exact Le.refl _
 | some v => exact Le.to fun _ => Le.to fun _ => Le.bind (execsQ_le R hC env body) fun f => by cases f <;> exact Le.refl _
noncomputable def strOfQ (v : Value) : Sem Value := match Builtin.Str.isExactStr v with
 | true => .pure v
 | false => bnd (Fast.tw9201129301070521445 v ⟨⟨[95, 95, 115, 116, 114, 95, 95]⟩⟩) fun x => match x with
  | some r => bnd (Fast.tw8364510232829398291 r) fun a => match a.isNone with
   | true => .unsupported "mine:str"
   | false => .pure r
  | none => .unsupported "mine:str"
noncomputable def strNewQ (args : Args) : Sem PySem.Fin := match args.pos with
 | [] => .unsupported "mine:str"
 | cls :: rest => bnd (Fast.tw10380811246957099773 cls) fun i => match i with
  | false => .unsupported "mine:str"
  | true => bnd (Fast.tw16098473122060591676 cls (Value.type PySem.W.SL.s10796804682411823810x3)) fun j => match j with
   | false => .unsupported "mine:str"
   | true => match (veq cls (Value.type PySem.W.SL.s10796804682411823810x3) && args.kw.isEmpty && (decide (rest.length > 3) || @Fast.tw3471404346716756564 Value (@instBEqOfDecidableEq Value Fast.tw7966671052430208091) (List.drop 1 rest) Value.none)) with
    | true => .unsupported "mine:str"
    | false => bnd (Fast.tw8691677486771839064 PySem.W.SL.s3954824432099148385x11 PySem.W.SL.s10796804682411823810x3 0 [PySem.W.SL.s2742458400755230247x6, PySem.W.SL.s3431599834633701304x8, PySem.W.SL.s16907947792148722403x6] rest args.kw) fun xs => match xs with
     | [object, encoding, errors] => bnd (Fast.tw2975692339481112596 (veq cls (Value.type PySem.W.SL.s10796804682411823810x3) && args.kw.isEmpty) "'encoding'" encoding) fun encoding =>
      bnd (Fast.tw2975692339481112596 (veq cls (Value.type PySem.W.SL.s10796804682411823810x3) && args.kw.isEmpty) "'errors'" errors) fun errors => match object with
      | none => .unsupported "mine:str"
      | some x => match (encoding.isNone && errors.isNone) with
       | false => .unsupported "mine:str"
       | true => bnd (strOfQ x) fun made => match veq cls (Value.type PySem.W.SL.s10796804682411823810x3) with
        | true => Fast.tw6905046200447255374 made
        | false => .unsupported "mine:str"
     | _ => .unsupported "mine:str"
theorem strOfQ_le {prog : Program} {w : World} {Γ : Ctx} {A : Around} (R : Room A Γ) (v : Value) : Le (model prog w) Γ (strOfQ v) (Fast.tw14659325276902441207 v) := by
 unfold strOfQ Fast.tw14659325276902441207
 rw [← Fast.te12456147031677567982]
 cases Builtin.Str.isExactStr v with
 | true => exact Le.refl _
 | false =>
  simp only [Bool.false_eq_true, if_false, bnd_eq]
  rw [← Fast.te13383273872528276517]
  refine Le.skip (roomFor_le R _ _) (Le.to fun x => ?_)
  cases x with
  | none => exact Le.un _
  | some r =>
   refine Le.to fun a => ?_
   cases a with
   | none => exact Le.un _
   | some x => exact Le.refl _
theorem strNewQ_le {prog : Program} {w : World} {Γ : Ctx} {A : Around} (R : Room A Γ) (args : Args) : Le (model prog w) Γ (strNewQ args) (Fast.tw4232493443535541497 args) := by
 obtain ⟨pos, kw⟩ := args
 unfold strNewQ Fast.tw4232493443535541497
 rw [← Fast.te12456147031677567982]
 cases pos with
 | nil => exact Le.un _
 | cons cls rest =>
  simp only [bnd_eq]
  refine Le.to fun i => ?_
  cases i with
  | false => exact Le.un _
  | true =>
   refine Le.to fun j => ?_
   cases j with
   | false => exact Le.un _
   | true =>
    rw [if_neg (by decide)]
    show Le _ _ _ (if (veq cls (Value.type PySem.W.SL.s10796804682411823810x3) && kw.isEmpty && (decide (rest.length > 3) || @Fast.tw3471404346716756564 Value (@instBEqOfDecidableEq Value Fast.tw7966671052430208091) (List.drop 1 rest) Value.none)) = true then _ else _)
    cases (veq cls (Value.type PySem.W.SL.s10796804682411823810x3) && kw.isEmpty && (decide (rest.length > 3) || @Fast.tw3471404346716756564 Value (@instBEqOfDecidableEq Value Fast.tw7966671052430208091) (List.drop 1 rest) Value.none)) with
    | true => exact Le.un _
    | false =>
     rw [if_neg (by decide)]
     refine Le.to fun xs => ?_
     rcases xs with _ | ⟨object, _ | ⟨encoding, _ | ⟨errors, _ | ⟨_, _⟩⟩⟩⟩
     ·exact Le.un _
     ·exact Le.un _
     ·exact Le.un _
     ·refine Le.to fun encoding => Le.to fun errors => ?_
      cases object with
      | none => exact Le.un _
      | some x =>
       show Le _ _ _ (if (encoding.isNone && errors.isNone) = true then _ else _)
       cases (encoding.isNone && errors.isNone) with
       | false => exact Le.un _
       | true =>
        rw [if_pos rfl]
        refine Le.bind (strOfQ_le R x) fun made => ?_
        show Le _ _ _ (if veq cls (Value.type PySem.W.SL.s10796804682411823810x3) = true then _ else _)
        cases veq cls (Value.type PySem.W.SL.s10796804682411823810x3) with
        | true => exact Le.refl _
        | false => exact Le.un _
     ·exact Le.un _
noncomputable def clsIs (o : Obj) (n : Nat) : Bool := match o.cls with
 | .type nm => Nat.beq (PySem.W.S.codeS nm) n
 | _ => false
noncomputable def liN : Nat := 9146042919481958196396663532141
noncomputable def riN : Nat := 2341386987387381298277481238717043
noncomputable def saN : Nat := 10056180538108767159183876981558246666106228
theorem liN_eq : PySem.code "list_iterator" = liN := by decide +kernel
theorem riN_eq : PySem.code "range_iterator" = riN := by decide +kernel
theorem saN_eq : PySem.code "str_ascii_iterator" = saN := by decide +kernel
theorem clsIs_ok {o : Obj} {n : Nat} {T : String} (hT : PySem.code T = n) (h : clsIs o n = true) : o.cls = .type T := by
 unfold clsIs at h
 split at h
 ·rename_i nm e
  have := Nat.eq_of_beq_eq_true h
  rw [← PySem.W.S.code_S, ← hT] at this
  rw [e, code_inj _ _ this]
 ·cases h
noncomputable def rangeP (o : Obj) : Option (Int × Int × Int) := match o with
 | ⟨_, none, .fields ⟨[.int x 0, .int l 0, .int st 0]⟩, ⟨[]⟩⟩ => some (x, l, st)
 | _ => none
noncomputable def isIter (o : Obj) : Bool := match o.data with
 | .fields ⟨vs⟩ => match vs with
  | [x, y] => match y with
   | .int i tk => match i with
    | .ofNat _ => match tk with
     | 0 => match x with
      | .ref _ => clsIs o liN
      | .str _ _ => clsIs o saN
      | _ => false
     | _ + 1 => false
    | _ => false
   | _ => false
  | [_, _, _] => match rangeP o with
   | some _ => clsIs o riN
   | none => false
  | _ => false
 | _ => false
theorem rangeP_ok {h : Heap} {a : Addr} {o : Obj} {x l st : Int} (ho : h.get? a = some o) (e : rangeP o = some (x, l, st)) (q : clsIs o riN = true) : IsRangeIter h a x l st := by
 have hc := clsIs_ok riN_eq q
 unfold rangeP at e
 split at e
 ·injection e with e
  injection e with e1 e2
  injection e2 with e2 e3
  subst e1 e2 e3
  simp only at hc
  subst hc
  exact ho
 ·cases e
theorem compStart_ok {prog : Program} {w : World} {A : Around} {E : Value → Shared → Prop} {s : Shared} {Q : PySem.Fin → Shared → Prop} {e : Expr} {depth : Nat} {it acc : Value} {env : Env}
  (hit : ∀ (Q' : Value → Shared → Prop), Q' it s → wpAny (model prog w) A (pyIter it) Q' E s) (h : Q (.again (.compLoop e depth it acc env)) s) : wpAny (model prog w) A (compStart e depth it acc env) Q E s := by
 unfold compStart
 split
 ·exact wpAny_pure h
 ·intro Γ p hΓ
  rw [Sem.wp_bind', Sem.wp_cmd_ask]
  revert Γ p
  show wpAny _ _ (if _ = true then _ else _) _ _ _
  split
  ·exact wpAny_pure h
  ·refine wpAny_bind (wpAny_rule ?_)
   split
   ·refine wpAny_bind (wpAny_standAt ?_)
    exact wpAny_bind (hit _ (wpAny_pure h))
   ·exact wpAny_bind (hit _ (wpAny_pure h))
theorem isIter_ok {prog : Program} {w : World} {A : Around} {E : Value → Shared → Prop} {s : Shared} {a : Addr} {o : Obj} (ho : s.heap.get? a = some o) (q : isIter o = true) :
  ∀ (Q' : Value → Shared → Prop), Q' (.ref a) s → wpAny (model prog w) A (pyIter (.ref a)) Q' E s := by
 intro Q' h
 unfold isIter at q
 split at q
 ·rename_i vs hd
  split at q
  ·split at q
   ·split at q
    ·split at q
     ·split at q
      ·exact wpAny_pyIter_listiter ⟨o, ho, clsIs_ok liN_eq q, hd⟩ h
      ·exact wpAny_pyIter_striter_ascii ⟨o, ho, clsIs_ok saN_eq q, hd⟩ h
      ·cases q
     ·cases q
    ·cases q
   ·cases q
  ·split at q
   ·rename_i v e
    obtain ⟨x, l, st⟩ := v
    exact wpAny_pyIter_rangeiter (rangeP_ok ho e q) h
   ·cases q
  ·cases q
 ·cases q
noncomputable def compQ (e : Expr) (depth : Nat) (it acc : Value) (env : Env) : Sem PySem.Fin := match it with
 | .ref a => .load a none fun o => match isIter o with
  | true => .pure (.again (.compLoop e depth it acc env))
  | false => .unsupported "mine:comp"
 | _ => .unsupported "mine:comp"
theorem compQ_own {prog : Program} {w : World} {A : Around} {e : Expr} {depth : Nat} {it acc : Value} {env : Env} {Q : PySem.Fin → Shared → Prop} {E : Value → Shared → Prop} {s : Shared}
  (x : wpOwn (model prog w) A (.compStart e depth it acc env) (compQ e depth it acc env) Q E s) : wpOwn (model prog w) A (.compStart e depth it acc env) (denote table (.compStart e depth it acc env)) Q E s := by
 intro Γ p hcd hΓ
 have z := x Γ p hcd hΓ
 cases it with
 | ref a =>
  unfold compQ at z
  simp only at z
  rw [Sem.wp_load] at z
  obtain ⟨o, ho, z⟩ := z
  cases q : isIter o with
  | false => rw [q] at z; cases z
  | true =>
   rw [q] at z
   have z : Q (.again (.compLoop e depth (.ref a) acc env)) s := z
   have key : ∀ h : Value → Sem Unit, Sem.wp (model prog w) Γ ((compStart e depth (.ref a) acc env).onRaise h) (fun a _ s' => Q a s') (fun e _ s' => E e s') p s := by
    intro h
    rw [Sem.wp_onRaise]
    have y : wpAny (model prog w) (A.under (.compStart e depth (.ref a) acc env)) (compStart e depth (.ref a) acc env) Q (fun _ _ => False) s := compStart_ok (fun Q' hQ => isIter_ok ho q Q' hQ) z
    exact Sem.wp_mono _ Γ _ (fun _ _ _ h => h) (fun _ _ _ h => by cases h) p s (y Γ p (hcd ▸ hΓ.in))
   show Sem.wp (model prog w) Γ (if Code.isFrame _ = true then _ else _) _ _ p s
   split
   ·exact key _
   ·exact key _
 | _ => cases z
noncomputable abbrev fastDen : Code → Sem Fin := Fast.tw11892475500146522536 Fast.tw14364793385576792824
theorem fastDen_eq : denote table = fastDen := by
 rw [table_eq_tree, Fast.te14364793385576792824, Fast.te11892475500146522536]
noncomputable def bodyOf (fd : FuncData) (env : Env) : Code := match fd.body with
 | .stmts b => .func b env
 | .expr e => .expr e env
noncomputable def qualOf (fd : FuncData) : Sem Str := match fd.code with
 | .none => .pure fd.qualname
 | c => R.bindR (Fast.tw6609576154772507232 c 1) fun v => match v with
  | .str q _ => .pure q
  | _ => .pure fd.qualname
noncomputable def callFnQ (self : Addr) (fd : FuncData) (args : Args) : Sem Fin :=
 R.bindR (qualOf fd) fun compiled => R.bindR (Fast.tw9782568553167038054 fd args) fun binds =>
  R.bindR (Fast.tw11113344188204177931 fd.scope fd.globals fd.closure binds (compiled ++ ".<locals>.") (some self) fd.code none fd.builtins) fun env =>
   .load cStatics none fun o => match noLim o with
    | true => .pure (.again (bodyOf fd env))
    | false => .unsupported "mine:limit"
noncomputable def genN : Nat := 8395602706694450420893107072773897535317608
noncomputable def genEnd (r : GenResult) : Sem PySem.Fin := match r with
 | .yielded v => .pure (.done (.ret v))
 | .returned v => match v with
  | .none => R.bindR (Fast.tw11364817496384490316 (.type "StopIteration") []) fun e => R.bindR (@Fast.tw17609497360097468838 PUnit e) fun _ => .unsupported "mine:gen"
  | _ => .unsupported "mine:gen"
 | _ => .unsupported "mine:gen"
noncomputable def genGo (i : Int) : Sem PySem.Fin := .load cStatics none fun o => match noLim o with
 | true => .resume i.toNat (.send .none) [] genEnd
 | false => .unsupported "mine:limit"
noncomputable def genQ (args : Args) : Sem Fin := match args.pos with
 | [] => .unsupported "mine:gen"
 | v :: rest => match rest with
  | _ :: _ => .unsupported "mine:gen"
  | [] => match args.kw with
   | _ :: _ => .unsupported "mine:gen"
   | [] => match v with
    | .ref a => .load a none fun o => match o with
     | ⟨_, _, d, ⟨sl⟩⟩ => match sl with
      | _ :: _ => .unsupported "mine:gen"
      | [] => match d with
       | .fields ⟨vs⟩ => match vs with
        | [] => .unsupported "mine:gen"
        | x :: _ => match x with
         | .int i _ => .genState i.toNat fun st => match st.1 with
          | .running => .unsupported "mine:gen"
          | .finished => .unsupported "mine:gen"
          | _ => genGo i
         | _ => .unsupported "mine:gen"
       | _ => .unsupported "mine:gen"
    | _ => .unsupported "mine:gen"
noncomputable def iaddN : Nat := 7635736742594467534504881056365
noncomputable def genTyN : Nat := 2129479059828900849256
noncomputable def isGen (o : Obj) : Bool := match o with
 | ⟨cls, _, d, ⟨sl⟩⟩ => match sl with
  | _ :: _ => false
  | [] => match cls with
   | .type nm => match Nat.beq (PySem.W.S.codeS nm) genTyN with
    | false => false
    | true => match d with
     | .fields ⟨vs⟩ => match vs with
      | [a, _, _] => match a with
       | .int i tk => match i with
        | .ofNat _ => match tk with
         | 0 => true
         | _ + 1 => false
        | .negSucc _ => false
       | _ => false
      | _ => false
     | _ => false
   | _ => false
noncomputable def isNil (o : Obj) : Bool := match o with
 | ⟨_, _, d, _⟩ => match d with
  | .seq ⟨vs⟩ _ => match vs with
   | [] => true
   | _ :: _ => false
  | _ => false
noncomputable def iaddQ (c : Code) (args : Args) : Sem Fin := match args.pos with
 | [x, y] => match args.kw with
  | _ :: _ => fastDen c
  | [] => match x with
   | .ref l => match y with
    | .ref I => .load I none fun o => match isGen o with
     | false => fastDen c
     | true => .load l none fun o' => match isNil o' with
      | false => .unsupported "mine:iadd"
      | true => .update l none (Obj.mapSeq (·.push .none)) fun _ => .update l none (Obj.mapSeq (·.pop)) fun _ => .pure (.again (.builtin "list.extend.loop" ⟨[.ref l, .ref I, .ref l], []⟩))
    | _ => fastDen c
   | _ => fastDen c
 | _ => fastDen c
noncomputable def strN : Nat := 116512446855873012371256692
noncomputable def lawFn (env : Env) : Bool := match env.func with
 | some a => Nat.beq a 126 || Nat.beq a 185 || Nat.beq a 89 || Nat.beq a 112 || Nat.beq a 149
 | none => false
noncomputable def dg (f n : Nat) : List Nat :=
 @Nat.rec (fun _ => Nat → List Nat) (fun _ => []) (fun _ ih n => Nat.sub (n % 96) 1 :: ih (n / 96)) f n
noncomputable def denQ (c : Code) : Sem Fin := match c with
 | .func body env => match lawFn env with
  | true => funcQ body env
  | false => fastDen c
 | .whileLoop test body orelse env => match lawFn env with
  | true => whileQ test body orelse env
  | false => fastDen c
 | .forLoop target it body orelse env => match lawFn env with
  | true => forQ target it body orelse env
  | false => fastDen c
 | .compStart e depth it acc env => compQ e depth it acc env
 | .call f args => match f with
  | .ref a => .load a none fun o => match o.data with
   | .func fd => match fd.scope.isGenerator, fd.scope.isCoroutine with
    | false, false => callFnQ a fd args
    | _, _ => fastDen c
   | _ => fastDen c
  | _ => fastDen c
 | .builtin id args => match Nat.beq (PySem.W.S.codeS id) genN with
  | true => genQ args
  | false => match Nat.beq (PySem.W.S.codeS id) iaddN with
   | true => iaddQ c args
   | false => match Nat.beq (PySem.W.S.codeS id) strN with
    | true => strNewQ args
    | false => fastDen c
 | _ => fastDen c
noncomputable abbrev Led := List (Addr × Obj)
structure Acc where
 a : List Nat
 c : List Code
 p : List Led
noncomputable def Acc.nil : Acc := ⟨[], [], []⟩
inductive Act
 | ora (idx : List Nat) (need : Led) (ce : Code) (v : Nat → Value) (d : Nat)
 | mov (idx : List Nat) (need : Led) (ce : Code) (v : Nat → Nat → Result) (d : Nat) (ups : List Obj) (news : Nat → List Obj)
 | gap (K : Nat) (idx : List Nat) (need : Led) (ce : Code) (v : (Nat → Nat) → Result) (ups : (Nat → Nat) → List Obj) (rest : (Nat → Nat) → List (Nat × Act))
 | cut
inductive RK
 | base
 | ret (c : Code) (k : Result → Sem Fin) (κ : RK)
 | gen (g : Nat) (c : Code) (k : GenResult → Sem Fin) (κ : RK)
noncomputable abbrev SX := Pos × List (Code × Pos) × (Nat → Nat)
noncomputable def SX.fresh (x : SX) : Nat → Nat := x.2.2
inductive RO
 | bad (why : Nat)
 | frk (f : Pos → RO)
 | sfk (f : SX → RO)
 | nfk (f : (Nat → Nat) → RO)
 | stk (c : Code) (k : List (Code × Pos) → Sem Fin) (g : Sem Fin → RO)
 | done (r : Result) (l : Led) (n t : Nat) (gl : List GenState) (x y : Acc)
 | cut (κ : RK) (c : Code) (l : Led) (n t : Nat) (gl : List GenState) (x y : Acc)
structure RV where
 prog : Program
 w : World
 look : Addr → Option Obj
noncomputable def pick (l : Led) : List Nat → Led
 | [] => []
 | i :: is => match l[i]? with
  | some p => p :: pick l is
  | none => pick l is
noncomputable def setAll : Led → List Nat → List Obj → Led
 | l, i :: is, o :: os => match l[i]? with
  | some p => setAll (l.set i (p.1, o)) is os
  | none => setAll l is (o :: os)
 | l, _, _ => l
noncomputable def pushAll : Nat → List Obj → Led → Led
 | _, [], l => l
 | n, o :: os, l => pushAll (n + 1) os ((n, o) :: l)
noncomputable def RK.len : RK → Nat
 | .base => 0
 | .ret _ _ κ => κ.len + 1
 | .gen _ _ _ κ => κ.len + 1
noncomputable def callerN : Nat := 35714603318786955769505017188
noncomputable def notCaller (c : Code) : Bool := match c with
 | .builtin id _ => !(Nat.beq (PySem.W.S.codeS id) callerN)
 | _ => true
noncomputable def fsOk : List Frame → Bool
 | [] => true
 | f :: fs => match f with
  | .ret _ hd _ _ _ _ _ => match hd with
   | none => fsOk fs
   | some _ => false
  | .gen .. => false
noncomputable def denM (md : Option (List Frame)) (c : Code) : Sem Fin := match md with
 | none => denQ c
 | some _ => fastDen c
noncomputable abbrev RunTy := List Nat → List (Nat × Act) → Code → Option (List Frame) → RK → Sem Fin → Led → Nat → Nat → List GenState → Acc → Acc → RO
noncomputable def pops (ih : RunTy) (ls : List Nat) (qs : List (Nat × Act)) (r : Result) (md : Option (List Frame)) (κ : RK) (l : Led) (n t : Nat) (gl : List GenState) (x y : Acc) : RO := match md with
 | none => match κ with
  | .base => .done r l n t gl x y
  | .ret c k κ => ih ls qs c none κ (k r) l n t gl x y
  | .gen .. => .bad 40
 | some fs => match fs with
  | [] => match κ with
   | .gen g c k κ => ih ls qs c none κ (k (End.ret r).result) l n t (gl.set g (End.ret r).genState) x y
   | _ => .bad 41
  | f :: fs => match f with
   | .ret k _ _ _ c₁ _ _ => ih ls qs c₁ (some fs) κ (k r) l n t gl x y
   | .gen .. => .bad 42
noncomputable def goC (ih : RunTy) (ls : List Nat) (qs : List (Nat × Act)) (c : Code) (md : Option (List Frame)) (κ : RK) (l : Led) (n t : Nat) (gl : List GenState) (x y : Acc) : RO := match qs with
 | [] => ih ls [] c md κ (denM md c) l n t gl x y
 | q :: qs => match q with
  | (j, act) => match j with
   | 0 => match md with
    | some _ => .bad 43
    | none => match act with
     | .cut => .cut κ c l n t gl x y
     | .mov idx need ce v d ups news => pops ih ls qs (v n t) none κ (pushAll n (news n) (setAll l idx ups)) (n + (news n).length) (t + d) gl ⟨x.a, c :: x.c, pick l idx :: x.p⟩ ⟨y.a, ce :: y.c, need :: y.p⟩
     | .gap K idx need ce v ups rest => match Nat.ble κ.len K with
      | true => .nfk fun φ => pops ih ls (rest φ) (v φ) none κ (setAll l idx (ups φ)) (φ 0 + 186) (φ 1) gl ⟨x.a, c :: x.c, pick l idx :: x.p⟩ ⟨y.a, ce :: y.c, need :: y.p⟩
      | false => .bad 47
     | .ora idx need ce v d => pops ih ls qs (.ok (.ret (v t))) none κ l n (t + d) gl ⟨x.a, c :: x.c, pick l idx :: x.p⟩ ⟨y.a, ce :: y.c, need :: y.p⟩
   | j + 1 => ih ls ((j, act) :: qs) c md κ (denM md c) l n t gl x y
noncomputable def goG (ih : RunTy) (ls : List Nat) (qs : List (Nat × Act)) (c : Code) (k : Result → Sem Fin) (g : Bool) (lv : List Value) (c' : Code) (fs : List Frame) (κ : RK) (l : Led) (n t : Nat) (gl : List GenState) (x y : Acc) : RO := match qs with
 | [] => .frk fun p => ih ls [] c' (some (.ret k none g lv c p [] :: fs)) κ (fastDen c') l n t gl x y
 | q :: qs => match q with
  | (j, act) => match j with
   | 0 => match act with
    | .cut => .bad 44
    | .mov .. => .bad 46
    | .gap .. => .bad 46
    | .ora idx need ce v d => match fsOk fs with
     | true => ih ls qs c (some fs) κ (k (.ok (.ret (v t)))) l n (t + d) gl ⟨x.a, c' :: x.c, pick l idx :: x.p⟩ ⟨y.a, ce :: y.c, need :: y.p⟩
     | false => .bad 45
   | j + 1 => .frk fun p => ih ls ((j, act) :: qs) c' (some (.ret k none g lv c p [] :: fs)) κ (fastDen c') l n t gl x y
noncomputable def stepQ (V : RV) (ih : RunTy) : RunTy := fun ls qs c md κ tr l n t gl x₀ y => match tr with
 | .pure fin => match fin with
  | .done f => pops ih ls qs (.ok f) md κ l n t gl x₀ y
  | .again c' => match c'.quiet with
   | true => goC ih ls qs c' md κ l n t gl x₀ y
   | false => .bad 1
 | .raise e => pops ih ls qs (.error e) md κ l n t gl x₀ y
 | .rule _ k => ih ls qs c md κ (k ()) l n t gl x₀ y
 | .at _ k => ih ls qs c md κ (k ()) l n t gl x₀ y
 | .point _ k => ih ls qs c md κ (k ()) l n t gl x₀ y
 | .ask k => ih ls qs c md κ (k ⟨V.prog, V.w.params⟩) l n t gl x₀ y
 | .load a _ k => match ls with
  | [] => .bad 2
  | i :: ls => match i with
   | 0 => match V.look a with
    | some o => ih ls qs c md κ (k o) l n t gl x₀ y
    | none => .bad 3
   | i + 1 => match l[i]? with
    | some p => ih ls qs c md κ (k p.2) l n t gl ⟨a :: x₀.a, x₀.c, x₀.p⟩ ⟨p.1 :: y.a, y.c, y.p⟩
    | none => .bad 4
 | .loadIfAlive a k => match ls with
  | [] => .bad 2
  | i :: ls => match i with
   | 0 => match V.look a with
    | some o => ih ls qs c md κ (k (some o)) l n t gl x₀ y
    | none => .bad 3
   | i + 1 => match l[i]? with
    | some p => ih ls qs c md κ (k (some p.2)) l n t gl ⟨a :: x₀.a, x₀.c, x₀.p⟩ ⟨p.1 :: y.a, y.c, y.p⟩
    | none => .bad 4
 | .alloc o k => match o.isFreed with
  | true => .bad 5
  | false => ih ls qs c md κ (k n) ((n, o) :: l) (n + 1) t gl x₀ y
 | .update a _ f k => match ls with
  | [] => .bad 6
  | i :: ls => match i with
   | 0 => .bad 7
   | i + 1 => match l[i]? with
    | some p => match (f p.2).isFreed with
     | true => .bad 8
     | false => ih ls qs c md κ (k ()) (l.set i (p.1, f p.2)) n t gl ⟨a :: x₀.a, x₀.c, x₀.p⟩ ⟨p.1 :: y.a, y.c, y.p⟩
    | none => .bad 9
 | .fresh k => ih ls qs c md κ (k t) l n (t + 1) gl x₀ y
 | .handled own k => match own with
  | true => .bad 10
  | false => match md with
   | none => ih ls qs c md κ (k none) l n t gl x₀ y
   | some fs => match fsOk fs with
    | true => ih ls qs c md κ (k none) l n t gl x₀ y
    | false => .bad 13
 | .call c' hd g lv k => match hd with
  | some _ => .bad 11
  | none => match md with
   | none => match notCaller c && Nat.blt κ.len 24 with
    | true => goC ih ls qs c' none (.ret c k κ) l n t gl x₀ y
    | false => .bad 12
   | some fs => goG ih ls qs c k g lv c' fs κ l n t gl x₀ y
 | .unsupported _ => .bad 20
 | .finish _ => .bad 21
 | .register .. => .bad 22
 | .choose .. => .bad 23
 | .os .. => .bad 24
 | .stack k => match md with
  | none => match notCaller c with
   | true => .stk c k fun tr => ih ls qs c none κ tr l n t gl x₀ y
   | false => .bad 25
  | some fs => .sfk fun x => ih ls qs c (some fs) κ (k ((c, x.1) :: x.2.1)) l n t gl x₀ y
 | .newGen c' k => ih ls qs c md κ (k gl.length) l n t (gl ++ [.fresh c']) x₀ y
 | .genState g k => match gl[g]? with
  | some gs => ih ls qs c md κ (k gs.seen) l n t gl x₀ y
  | none => .bad 27
 | .resume g r _ k => match md with
  | some _ => .bad 28
  | none => match gl[g]? with
   | none => .bad 28
   | some gs => match notCaller c && Nat.blt κ.len 24 with
    | false => .bad 12
    | true => match gs with
     | .fresh c₀ => match r with
      | .throw _ => .bad 28
      | .send v => match v with
       | .none => ih ls qs c₀ (some []) (.gen g c k κ) (fastDen c₀) l n t (gl.set g .running) x₀ y
       | _ => .bad 28
     | .suspended k₀ _ c₀ _ fs₀ _ => ih ls qs c₀ (some fs₀) (.gen g c k κ) (k₀ r) l n t (gl.set g .running) x₀ y
     | .running => .bad 28
     | .finished => .bad 28
 | .yield v gd lv k => match md with
  | none => .bad 29
  | some fs => match gd with
   | true => .bad 29
   | false => match splitAtGen fs with
    | some _ => .bad 29
    | none => match fs.any Frame.guarded with
     | true => .bad 29
     | false => match κ with
      | .gen g c₁ k₁ κ => .frk fun p => ih ls qs c₁ none κ (k₁ (.yielded v)) l n t (gl.set g (End.susp v false lv k c p fs).genState) x₀ y
      | _ => .bad 29
 | .fork .. => .bad 30
 | .thread _ => .bad 31
 | .await .. => .bad 32
noncomputable def run (V : RV) : Nat → RunTy
 | 0 => fun _ _ _ _ _ _ _ _ _ _ _ _ => .bad 0
 | n + 1 => stepQ V (run V n)
theorem callerN_eq : PySem.code "claim.caller" = callerN := by decide +kernel
theorem notCaller_ok {c : Code} (h : notCaller c = true) : c.isCaller = false := by
 unfold Code.isCaller
 split
 ·rename_i a
  have q : notCaller (.builtin "claim.caller" a) = !(Nat.beq (PySem.W.S.codeS "claim.caller") callerN) := rfl
  rw [q, ← PySem.W.S.code_S, callerN_eq, Nat.beq_refl] at h
  cases h
 ·rfl
theorem frames_le (c : Code) : c.frames ≤ 3 := by
 unfold Code.frames
 split <;> first | decide | (split <;> decide)
theorem weight_le {c : Code} (h : notCaller c = true) : c.weight ≤ 5 := by
 unfold Code.weight
 rw [notCaller_ok h]
 have := frames_le c
 simp only [Bool.false_eq_true, if_false]
 (repeat' split) <;> lia
structure Base where
 V : RV
 h₀ : Heap
 tabs : List Addr
structure Base.Ok (B : Base) : Prop where
 lim : ∃ o, B.V.look cStatics = some o ∧ noLim o = true
 look : ∀ a o, B.V.look a = some o → B.h₀.get? a = some o ∧ a ∉ B.tabs
structure St (B : Base) (h : Heap) (l : Led) (n : Nat) : Prop where
 size : h.objs.size = n
 low : B.h₀.objs.size ≤ n
 keep : ∀ b o, B.h₀.get? b = some o → b ∉ B.tabs → h.get? b = some o
 led : ∀ p ∈ l, h.get? p.1 = some p.2
 nodup : (l.map (·.1)).Nodup
 own : ∀ p ∈ l, p.1 ∈ B.tabs ∨ B.h₀.objs.size ≤ p.1
section
variable {B : Base} {h : Heap} {l : Led} {n : Nat}
theorem St.look (S : St B h l n) (O : B.Ok) {a : Addr} {o : Obj} (e : B.V.look a = some o) : h.get? a = some o :=
 S.keep a o (O.look a o e).1 (O.look a o e).2
theorem St.at (S : St B h l n) {i : Nat} {p : Addr × Obj} (e : l[i]? = some p) : h.get? p.1 = some p.2 := S.led p (List.mem_of_getElem? e)
theorem St.alloc (S : St B h l n) {o : Obj} (hf : o.isFreed = false) : St B (h.push o) ((n, o) :: l) (n + 1) := by
 refine ⟨by rw [Heap.size_push, S.size], Nat.le_succ_of_le S.low, fun b o' e q => Heap.get?_push_of_some _ (S.keep b o' e q), fun p hp => ?_, ?_, fun p hp => ?_⟩
 ·rcases List.mem_cons.mp hp with rfl | hp
  ·rw [← S.size]; exact Heap.get?_push_size _ hf
  ·exact Heap.get?_push_of_some _ (S.led p hp)
 ·rw [List.map_cons, List.nodup_cons]
  refine ⟨fun hm => ?_, S.nodup⟩
  obtain ⟨p, hp, e⟩ := List.mem_map.mp hm
  have := Heap.lt_size (S.led p hp)
  rw [S.size, e] at this
  exact Nat.lt_irrefl _ this
 ·rcases List.mem_cons.mp hp with rfl | hp
  ·exact .inr S.low
  ·exact S.own p hp
theorem St.update (S : St B h l n) {i : Nat} {p : Addr × Obj} {f : Obj → Obj} (e : l[i]? = some p) (hf : (f p.2).isFreed = false) : St B (h.update p.1 f) (l.set i (p.1, f p.2)) n := by
 have ho := S.at e
 have hs : Heap.SameBut p.1 h (h.update p.1 f) := Heap.SameBut.update ..
 have ge : (h.update p.1 f).get? p.1 = some (f p.2) := by first | exact Heap.get?_update_self f ho hf | exact Heap.get?_update_self _ ho hf
 obtain ⟨hl, hgi⟩ := List.getElem?_eq_some_iff.mp e
 have em : (l.set i (p.1, f p.2)).map (·.1) = l.map (·.1) := by
  rw [List.map_set]
  have : (l.map (·.1))[i]? = some p.1 := by rw [List.getElem?_map, e]; rfl
  exact set_same this
 refine ⟨by rw [hs.1, S.size], S.low, fun b o' e' q => ?_, fun q hq => ?_, by rw [em]; exact S.nodup, fun q hq => ?_⟩
 ·have ne : b ≠ p.1 := by
   rintro rfl
   rcases S.own p (List.mem_of_getElem? e) with t | t
   ·exact q t
   ·exact absurd (Heap.lt_size e') (Nat.not_lt.mpr t)
  exact (hs.2 b ne).trans (S.keep b o' e' q)
 ·by_cases hqp : q.1 = p.1
  ·have hx : (p.1, f p.2) ∈ l.set i (p.1, f p.2) := List.mem_set hl _
   have : q = (p.1, f p.2) := key_unique (by rw [em]; exact S.nodup) hq hx hqp
   subst this
   exact ge
  ·rcases List.mem_or_eq_of_mem_set hq with hq | rfl
   ·exact (hs.2 _ hqp).trans (S.led q hq)
   ·exact absurd rfl hqp
 ·rcases List.mem_or_eq_of_mem_set hq with hq | rfl
  ·exact S.own q hq
  ·exact S.own p (List.mem_of_getElem? e)
theorem pick_cons_some {l : Led} {i : Nat} {is : List Nat} {x : Addr × Obj} (q : l[i]? = some x) : pick l (i :: is) = x :: pick l is := by
 show (match l[i]? with | some p => p :: pick l is | none => pick l is) = _
 rw [q]
theorem pick_cons_none {l : Led} {i : Nat} {is : List Nat} (q : l[i]? = none) : pick l (i :: is) = pick l is := by
 show (match l[i]? with | some p => p :: pick l is | none => pick l is) = _
 rw [q]
theorem pick_at {l : Led} : ∀ {is : List Nat} {p : Addr × Obj}, p ∈ pick l is → ∃ j ∈ is, l[j]? = some p
 | [], p, h => by cases h
 | i :: is, p, h => by
  cases q : l[i]? with
  | none =>
   rw [pick_cons_none q] at h
   obtain ⟨j, a, b⟩ := pick_at h
   exact ⟨j, .tail _ a, b⟩
  | some x =>
   rw [pick_cons_some q] at h
   rcases List.mem_cons.mp h with rfl | h
   ·exact ⟨i, .head _, q⟩
   ·obtain ⟨j, a, b⟩ := pick_at h
    exact ⟨j, .tail _ a, b⟩
theorem pick_mem {l : Led} {is : List Nat} {p : Addr × Obj} (h : p ∈ pick l is) : p ∈ l := by
 obtain ⟨_, _, e⟩ := pick_at h
 exact List.mem_of_getElem? e
theorem St.part (S : St B h l n) {l' : Led} (hm : ∀ p ∈ l', p ∈ l) (hn : (l'.map (·.1)).Nodup) : St B h l' n :=
 ⟨S.size, S.low, S.keep, fun p hp => S.led p (hm p hp), hn, fun p hp => S.own p (hm p hp)⟩
theorem nodup_inj {α : Type} {l : List α} (hn : l.Nodup) {i j : Nat} {x : α} (hi : l[i]? = some x) (hj : l[j]? = some x) : i = j := by
 obtain ⟨b1, c1⟩ := List.getElem?_eq_some_iff.mp hi
 obtain ⟨b2, c2⟩ := List.getElem?_eq_some_iff.mp hj
 have hp := List.pairwise_iff_getElem.mp hn
 rcases Nat.lt_trichotomy i j with h | h | h
 ·exact absurd (c1.trans c2.symm) (hp i j b1 b2 h)
 ·exact h
 ·exact absurd (c2.trans c1.symm) (hp j i b2 b1 h)
theorem nodup_pick {l : Led} (hn : (l.map (·.1)).Nodup) : ∀ {is : List Nat}, is.Nodup → ((pick l is).map (·.1)).Nodup
 | [], _ => List.nodup_nil
 | i :: is, hi => by
  rw [List.nodup_cons] at hi
  cases q : l[i]? with
  | none => rw [pick_cons_none q]; exact nodup_pick hn hi.2
  | some x =>
   rw [pick_cons_some q, List.map_cons, List.nodup_cons]
   refine ⟨fun hm => ?_, nodup_pick hn hi.2⟩
   obtain ⟨p, hp, e⟩ := List.mem_map.mp hm
   obtain ⟨j, hj, ej⟩ := pick_at hp
   have h1 : (l.map (·.1))[i]? = some x.1 := by rw [List.getElem?_map, q]; rfl
   have h2 : (l.map (·.1))[j]? = some x.1 := by rw [List.getElem?_map, ej]; exact congrArg some e
   have := nodup_inj hn h1 h2
   subst this
   exact hi.1 hj
noncomputable def pickT (l : Led) (is : List Nat) (m : Nat) : Led := pick l is ++ l.drop m
theorem nodup_pickT {l : Led} (hn : (l.map (·.1)).Nodup) {is : List Nat} {m : Nat} (hi : is.Nodup) (hm : is.all (fun i => Nat.blt i m) = true) : ((pickT l is m).map (·.1)).Nodup := by
 unfold pickT
 rw [List.map_append, List.nodup_append]
 refine ⟨nodup_pick hn hi, ?_, ?_⟩
 ·rw [List.map_drop]
  exact hn.sublist (List.drop_sublist _ _)
 ·intro a ha b hb e
  subst e
  obtain ⟨x, hx, rfl⟩ := List.mem_map.mp ha
  obtain ⟨i, hi', ei⟩ := pick_at hx
  obtain ⟨y, hy, e⟩ := List.mem_map.mp hb
  obtain ⟨j, hj⟩ := List.mem_iff_getElem?.mp hy
  rw [List.getElem?_drop] at hj
  have lt : i < m := Nat.le_of_ble_eq_true (List.all_eq_true.mp hm i hi')
  have h1 : (l.map (·.1))[i]? = some x.1 := by rw [List.getElem?_map, ei]; rfl
  have h2 : (l.map (·.1))[m + j]? = some x.1 := by rw [List.getElem?_map, hj]; exact congrArg some e
  have := nodup_inj hn h1 h2
  lia
theorem St.pickT (S : St B h l n) {is : List Nat} {m : Nat} (hi : is.Nodup) (hm : is.all (fun i => Nat.blt i m) = true) : St B h (pickT l is m) n :=
 S.part (fun p hp => by
  rcases List.mem_append.mp hp with hp | hp
  ·exact pick_mem hp
  ·exact List.mem_of_mem_drop hp) (nodup_pickT S.nodup hi hm)
end
noncomputable def arnd (A : Around) : RK → Around
 | .base => A
 | .ret c _ κ => ((arnd A κ).under c).mark none
 | .gen .. => A
noncomputable def arndG (A : Around) : RK → Around
 | .gen _ c _ κ => (arnd A κ).under c
 | _ => A
noncomputable def depOk (A : Around) : RK → Prop
 | .base => True
 | .ret c _ κ => c.weight ≤ 5 ∧ κ.len < 24 ∧ depOk A κ
 | .gen _ c _ κ => c.weight ≤ 5 ∧ κ.len < 24 ∧ depOk A κ
theorem arnd_depth (A : Around) : ∀ κ, depOk A κ → (arnd A κ).depth ≤ A.depth + 5 * κ.len
 | .base, _ => Nat.le_refl _
 | .ret c _ κ, h => by
  have := arnd_depth A κ h.2.2
  show (arnd A κ).depth + c.weight ≤ A.depth + 5 * (κ.len + 1)
  have := h.1
  lia
 | .gen .., _ => Nat.le_add_right _ _
theorem depOk_len (A : Around) : ∀ κ, depOk A κ → κ.len ≤ 24
 | .base, _ => Nat.zero_le _
 | .ret _ _ _, h => h.2.1
 | .gen _ _ _ _, h => h.2.1
theorem arnd_handled (A : Around) : ∀ κ, (arnd A κ).handled = A.handled
 | .base => rfl
 | .ret c _ κ => by
  show none.or (arnd A κ).handled = _
  exact arnd_handled A κ
 | .gen .. => rfl
theorem arndG_handled (A : Around) : ∀ κ, (arndG A κ).handled = A.handled
 | .base => rfl
 | .ret .. => rfl
 | .gen _ c _ κ => arnd_handled A κ
theorem over_handled (A : Around) (c : Code) (fs : List Frame) (h : fsOk fs = true) (hA : A.handled = none) : (A.over c fs).handled = none := by
 show (marksOver fs (A.handled, A.handled)).1 = none
 rw [hA]
 have : marksOver fs (none, none) = (none, none) := by
  induction fs with
  | nil => rfl
  | cons f fs ih =>
   cases f with
   | gen => cases h
   | ret k hd g l c p kp =>
    cases hd with
    | some => cases h
    | none =>
     have := ih h
     have e : marksOver (Frame.ret k none g l c p kp :: fs) (none, none) = Frame.marks (Frame.ret k none g l c p kp) (marksOver fs (none, none)) := rfl
     rw [e, this]
     rfl
 rw [this]
noncomputable def endK (B : Base) (A : Around) (R : Result → Shared → Prop) : RK → Result → Shared → Prop
 | .base => R
 | .ret c k κ => postR B.V.prog B.V.w (arnd A κ) c (postC B.V.prog B.V.w (arnd A κ) (endK B A R κ)) (postE (endK B A R κ)) k
 | .gen .. => fun _ _ => False
noncomputable def wakeK (B : Base) (A : Around) (R : Result → Shared → Prop) : RK → End → Shared → Prop
 | .gen g c k κ => postG B.V.prog B.V.w (arnd A κ) c (postC B.V.prog B.V.w (arnd A κ) (endK B A R κ)) (postE (endK B A R κ)) k g
 | _ => fun _ _ => False
noncomputable def Mns (B : Base) (A : Around) (R : Result → Shared → Prop) (κ : RK) (c : Code) (tr : Sem Fin) (s : Shared) : Prop :=
 wpOwn (model B.V.prog B.V.w) (arnd A κ) c tr (postC B.V.prog B.V.w (arnd A κ) (endK B A R κ)) (postE (endK B A R κ)) s
noncomputable def MnsM (B : Base) (A : Around) (R : Result → Shared → Prop) (md : Option (List Frame)) (κ : RK) (c : Code) (tr : Sem Fin) (s : Shared) : Prop := match md with
 | none => Mns B A R κ c tr s
 | some fs => SegX (model B.V.prog B.V.w) (arndG A κ) c tr fs s (wakeK B A R κ)
structure AOk (A : Around) (d : Nat) : Prop where
 depth : A.depth + d < recursionLimit
 units : A.units + 20 * d < cLine
 handled : A.handled = none
noncomputable def qualR (fd : FuncData) : Sem Str := match fd.code with
 | .none => .pure fd.qualname
 | c => (field c 1).bind fun v => match v with
  | .str q _ => .pure q
  | _ => .pure fd.qualname
theorem qualR_eq (fd : FuncData) : qualOf fd = qualR fd := by
 unfold qualOf qualR
 rw [← R.bindR_eq, ← Fast.te6609576154772507232]
theorem callFunction_eq {self : Addr} {fd : FuncData} {args : Args} (hg : fd.scope.isGenerator = false) (hc : fd.scope.isCoroutine = false) :
  callFunction self fd args = (qualR fd).bind fun q => (bindArgs fd args).bind fun b =>
   (newFunctionEnv fd.scope fd.globals fd.closure b (q ++ ".<locals>.") (some self) fd.code none fd.builtins).bind fun env =>
    enterFrame.bind fun _ => .pure (.again (bodyOf fd env)) := by
 unfold callFunction qualR
 simp only [hg, hc]
 cases fd.code <;> first | rfl | (refine Eq.trans ?_ (Sem.bind_assoc _ _ _).symm; refine congrArg (Sem.bind (field _ 1)) (funext fun v => ?_); cases v <;> rfl)
theorem callFn_at {M : Model} {A : Around} {c : Code} {self : Addr} {fd : FuncData} {args : Args} {Q : PySem.Fin → Shared → Prop} {E : Value → Shared → Prop} {s : Shared} {Γ : Ctx} {p : Pos}
  (hd : (A.under c).depth < recursionLimit) (hg : fd.scope.isGenerator = false) (hc : fd.scope.isCoroutine = false) (hcd : Γ.code = c) (hΓ : Γ.Below A)
  (z : Sem.wp M Γ (callFnQ self fd args) (fun a _ s' => Q a s') (fun e _ s' => E e s') p s) :
  Sem.wp M Γ (callFunction self fd args) (fun a _ s' => Q a s') (fun e _ s' => E e s') p s := by
 rw [callFunction_eq hg hc]
 unfold callFnQ at z
 rw [← R.bindR_eq, ← Fast.te9782568553167038054, ← Fast.te11113344188204177931, qualR_eq] at z
 rw [Sem.wp_bind] at z ⊢
 refine Sem.wp_mono M Γ _ (fun q p₁ s₁ z => ?_) (fun _ _ _ h => h) p s z
 rw [Sem.wp_bind] at z ⊢
 refine Sem.wp_mono M Γ _ (fun b p₂ s₂ z => ?_) (fun _ _ _ h => h) _ _ z
 rw [Sem.wp_bind] at z ⊢
 refine Sem.wp_mono M Γ _ (fun env p₃ s₃ z => ?_) (fun _ _ _ h => h) _ _ z
 rw [Sem.wp_load] at z
 obtain ⟨o, ho, z⟩ := z
 rw [Sem.wp_bind]
 have hin : Γ.In (A.under c) := hcd ▸ hΓ.in
 cases q : noLim o with
 | false => rw [q] at z; cases z
 | true =>
  rw [q] at z
  exact wpAny_enterFrame (E := E) (Q := fun _ s' => Q (.again (bodyOf fd env)) s') (noLim_ok ho q) hd z Γ p₃ hin
theorem genN_eq : PySem.code "generator.__next__" = genN := by decide +kernel
theorem genQ_at {M : Model} {A : Around} {c : Code} {args : Args} {Q : PySem.Fin → Shared → Prop} {E : Value → Shared → Prop} {s : Shared} {Γ : Ctx} {p : Pos} {id : String} (hid : entryFor table id = some Builtin.«generator.__next__»)
  (hd : (A.under c).depth < recursionLimit) (hcd : Γ.code = c) (hΓ : Γ.Below A)
  (zz : ∀ p, Sem.wp M Γ (genQ args) (fun a _ s' => Q a s') (fun e _ s' => E e s') p s) :
  Sem.wp M Γ (denote table (.builtin id args)) (fun a _ s' => Q a s') (fun e _ s' => E e s') p s := by
 show Sem.wp M Γ (match entryFor table id with | some b => b args | none => unsupported ((withoutEnding? id "#data").getD id)) _ _ p s
 rw [hid]
 obtain ⟨pos, kw⟩ := args
 have z := zz p
 unfold genQ at z
 split at z
 ·cases z
 ·rename_i v rest hpos
  simp only at hpos
  subst hpos
  split at z
  ·cases z
  ·split at z
   ·cases z
   ·rename_i hkw
    simp only at hkw
    subst hkw
    split at z
    ·rename_i a
     rw [Sem.wp_load] at z
     obtain ⟨o, ho, z⟩ := z
     split at z
     rename_i cls dict d sl
     split at z
     ·cases z
     ·split at z
      ·rename_i vs
       split at z
       ·cases z
       ·rename_i x r
        split at z
        ·rename_i i tk
         rw [Sem.wp_genState] at z
         obtain ⟨st, hst, z⟩ := z
         show Sem.wp M Γ (Builtin.Generator.genWake (.ref a) (.send .none)) _ _ p s
         unfold Builtin.Generator.genWake
         rw [Sem.wp_bind', Sem.wp_holding]
         unfold Builtin.Generator.genNumber
         rw [Sem.wp_bind']
         show Sem.wp M Γ (.load a none .pure) _ _ p s
         rw [Sem.wp_load]
         refine ⟨_, ho, ?_⟩
         rw [Sem.wp_pure]
         show Sem.wp M Γ (Sem.pure i.toNat) _ _ p s
         rw [Sem.wp_pure, Sem.wp_bind']
         show Sem.wp M Γ (.genState i.toNat fun x => .pure x.1) _ _ p s
         rw [Sem.wp_genState]
         refine ⟨st, hst, ?_⟩
         rw [Sem.wp_pure]
         have here : ∀ p', Sem.wp M Γ (match st.seen.1 with
          | .running => .unsupported "mine:gen"
          | .finished => .unsupported "mine:gen"
          | _ => genGo i) (fun a _ s' => Q a s') (fun e _ s' => E e s') p' s := fun p' => by
          have y := zz p'
          unfold genQ at y
          simp only at y
          rw [Sem.wp_load] at y
          obtain ⟨o', ho', y⟩ := y
          rw [ho] at ho'
          injection ho' with e
          subst e
          simp only at y
          rw [Sem.wp_genState] at y
          obtain ⟨st', hst', y⟩ := y
          rw [hst] at hst'
          injection hst' with e
          subst e
          exact y
         have wake : (∀ p', Sem.wp M Γ (genGo i) (fun a _ s' => Q a s') (fun e _ s' => E e s') p' s) → (∃ o, s.heap.get? cStatics = some o ∧ noLim o = true) ∧ ∀ p', Sem.wp M Γ (.resume i.toNat (.send .none) [] genEnd) (fun a _ s' => Q a s') (fun e _ s' => E e s') p' s := by
          intro y
          have one : ∀ p', ∃ o, s.heap.get? cStatics = some o ∧ noLim o = true ∧ Sem.wp M Γ (.resume i.toNat (.send .none) [] genEnd) (fun a _ s' => Q a s') (fun e _ s' => E e s') p' s := fun p' => by
           have x := y p'
           unfold genGo at x
           rw [Sem.wp_load] at x
           obtain ⟨o, ho, x⟩ := x
           cases q : noLim o with
           | true => rw [q] at x; exact ⟨o, ho, q, x⟩
           | false => rw [q] at x; cases x
          obtain ⟨o, ho, q, _⟩ := one p
          exact ⟨⟨o, ho, q⟩, fun p' => (one p').choose_spec.2.2⟩
         have fin : ∀ (k : GenResult → Sem PySem.Fin), (∀ r p' s', Sem.wp M Γ (genEnd r) (fun a _ s' => Q a s') (fun e _ s' => E e s') p' s' → Sem.wp M Γ (k r) (fun a _ s' => Q a s') (fun e _ s' => E e s') p' s') →
           (∀ p', Sem.wp M Γ (genGo i) (fun a _ s' => Q a s') (fun e _ s' => E e s') p' s) → Sem.wp M Γ (roomToWake >>= fun _ => resume i.toNat (.send .none) >>= k) (fun a _ s' => Q a s') (fun e _ s' => E e s') p s := by
          intro k hk y
          obtain ⟨⟨o, ho, q⟩, y⟩ := wake y
          rw [Sem.wp_bind']
          have w1 : Sem.wp M Γ roomToWake (fun _ _ s' => ∀ p', Sem.wp M Γ (resume i.toNat (.send .none) >>= k) (fun a _ s' => Q a s') (fun e _ s' => E e s') p' s') (fun e _ s' => E e s') p s :=
           wpAny_roomToWake (Q := fun _ s' => ∀ p', Sem.wp M Γ (resume i.toNat (.send .none) >>= k) (fun a _ s' => Q a s') (fun e _ s' => E e s') p' s') (E := E) (noLim_ok ho q) hd (fun p' => by
            show Sem.wp M Γ (.resume i.toNat (.send .none) [] k) _ _ p' s
            have y := y p'
            rw [Sem.wp_resume] at y ⊢
            obtain ⟨res, s', hw, y⟩ := y
            exact ⟨res, s', hw, hk _ _ _ y⟩) Γ p (hcd ▸ hΓ.in)
          exact Sem.wp_mono M Γ _ (fun _ p' s' h => h p') (fun _ _ _ h => h) p s w1
         have leaf : ∀ (jp : PUnit → Sem PySem.Fin) p' s', Sem.wp M Γ (genEnd (.returned .none)) (fun a _ s' => Q a s') (fun e _ s' => E e s') p' s' →
           Sem.wp M Γ (newExc (.type "StopIteration") [] >>= fun e => raiseNew e >>= jp) (fun a _ s' => Q a s') (fun e _ s' => E e s') p' s' := by
          intro jp p' s' y
          unfold genEnd at y
          simp only at y
          rw [← R.bindR_eq, ← Fast.te11364817496384490316, ← Fast.te17609497360097468838] at y
          rw [Sem.wp_bind] at y
          rw [Sem.wp_bind']
          refine Sem.wp_mono M Γ _ (fun e p₁ s₁ y => ?_) (fun _ _ _ h => h) p' s' y
          rw [Sem.wp_bind] at y
          rw [Sem.wp_bind']
          refine Sem.wp_mono M Γ _ (fun e p₁ s₁ y => ?_) (fun _ _ _ h => h) _ _ y
          cases y
         have yes : ∀ r p' s', Sem.wp M Γ (genEnd r) (fun a _ s' => Q a s') (fun e _ s' => E e s') p' s' → (∃ v, r = .yielded v) ∨ r = .returned .none := by
          intro r p' s' y
          cases r with
          | yielded v => exact .inl ⟨v, rfl⟩
          | returned v =>
           cases v with
           | none => exact .inr rfl
           | _ => cases y
          | _ => cases y
         cases st with
         | running => cases z
         | finished => cases z
         | fresh c₀ =>
          refine fin _ (fun r p' s' y => ?_) here
          rcases yes r p' s' y with ⟨v, rfl⟩ | rfl
          ·exact y
          ·exact leaf _ p' s' y
         | suspended =>
          refine fin _ (fun r p' s' y => ?_) here
          rcases yes r p' s' y with ⟨v, rfl⟩ | rfl
          ·exact y
          ·exact leaf _ p' s' y
        ·cases z
      ·cases z
    ·cases z
theorem iaddN_eq : PySem.code "list.__iadd__" = iaddN := by decide +kernel
theorem genTyN_eq : PySem.code "generator" = genTyN := by decide +kernel
theorem isGen_ok {h : Heap} {I : Addr} {o : Obj} (e : h.get? I = some o) (q : isGen o = true) : ∃ g, h.IsGen I g := by
 obtain ⟨cls, d, dt, ⟨sl⟩⟩ := o
 unfold isGen at q
 simp only at q
 split at q
 ·cases q
 ·split at q
  ·rename_i nm
   split at q
   ·cases q
   ·rename_i hn
    split at q
    ·split at q
     ·rename_i a b c
      split at q
      ·rename_i i tk
       split at q
       ·split at q
        ·refine ⟨_, _, b, c, e, ?_, rfl, rfl⟩
         have := Nat.eq_of_beq_eq_true hn
         rw [← PySem.W.S.code_S, ← genTyN_eq] at this
         rw [code_inj _ _ this]
        ·cases q
       ·cases q
      ·cases q
     ·cases q
    ·cases q
  ·cases q
theorem isNil_ok {o : Obj} (q : isNil o = true) : ∃ n, o.data = .seq #[] n := by
 obtain ⟨cls, d, dt, sl⟩ := o
 cases dt with
 | seq vs n =>
  obtain ⟨vs⟩ := vs
  cases vs with
  | nil => exact ⟨n, rfl⟩
  | cons => cases q
 | _ => cases q
theorem wpAny_extend_gen {prog : Program} {w : World} {A : Around} {E : Value → Shared → Prop} {s : Shared} {l I g : Nat} {ol : Obj} {n : Nat} {Q : PySem.Fin → Shared → Prop} (hg : s.heap.IsGen I g) (hl : s.heap.get? l = some ol) (hd : ol.data = .seq #[] n)
  (h : Q (.again (.builtin "list.extend.loop" ⟨[.ref l, .ref I, .ref l], []⟩)) { s with heap := (s.heap.update l (Obj.mapSeq (·.push .none))).update l (Obj.mapSeq (·.pop)) }) :
  wpAny (model prog w) A (Builtin.List.listExtendWith (.ref l) (.ref I) (.ref l)) Q E s := by
 have hne : l ≠ I := by
  rintro rfl
  obtain ⟨o, _, _, ho, _, hdt, _⟩ := hg
  rw [hl] at ho
  injection ho with e
  subst e
  rw [hd] at hdt
  cases hdt
 unfold Builtin.List.listExtendWith
 refine wpAny_bind (wpAny_typeOf hg.typeIs ?_)
 have h1 : Builtin.List.listSameRef (.ref l) (.ref I) = false := by simp [Builtin.List.listSameRef, hne]
 have h2 : (Value.type "generator" == Value.type "list") = false := by decide
 have h3 : (Value.type "generator" == Value.type "tuple") = false := by decide
 simp only [h1, h2, h3, Bool.or_false, Bool.false_eq_true, if_false]
 refine wpAny_bind (wpAny_pyIter_gen hg ?_)
 refine wpAny_bind (wpAny_holding ?_)
 unfold Builtin.List.listLengthHint
 refine wpAny_bind (wpAny_specialOf hg.typeIs F.gen_no_len ?_)
 show wpAny _ A (specialOf (Value.ref I) (Str.ofString "__length_hint__") >>= _) _ _ _
 refine wpAny_bind (wpAny_specialOf hg.typeIs F.gen_no_hint ?_)
 refine wpAny_pure ?_
 show wpAny _ A (rule "list.extend.makes-room" >>= fun _ => Builtin.List.listTouch (.ref l) >>= fun _ =>
  again (.builtin "list.extend.loop" ⟨[.ref l, .ref I, .ref l], []⟩)) _ _ _
 refine wpAny_bind (wpAny_rule ?_)
 refine wpAny_bind ?_
 show wpAny _ A (updateSeq l (·.push .none) >>= fun _ => updateSeq l (·.pop)) _ _ _
 refine wpAny_bind (wpAny_updateSeq hl hd ?_)
 have hf : ol.isFreed = false := by
  obtain ⟨cls, d, dt, sl⟩ := ol
  simp only at hd
  subst hd
  rfl
 have hS₂ := Heap.get?_update_self (Obj.mapSeq (·.push Value.none)) hl (by
  obtain ⟨cls, d, dt, sl⟩ := ol
  simp only at hd
  subst hd
  rfl)
 refine wpAny_updateSeq (n := n + 1) hS₂ (by
  obtain ⟨cls, d, dt, sl⟩ := ol
  simp only at hd
  subst hd
  rfl) ?_
 exact wpAny_pure h
theorem iaddQ_at {prog : Program} {w : World} {A : Around} {args : Args} {Q : PySem.Fin → Shared → Prop} {E : Value → Shared → Prop} {s : Shared} {Γ : Ctx} {p : Pos} {id : String} (hid : entryFor table id = some Builtin.«list.__iadd__»)
  (hin : Γ.In (A.under (.builtin id args)))
  (z : Sem.wp (model prog w) Γ (iaddQ (.builtin id args) args) (fun a _ s' => Q a s') (fun e _ s' => E e s') p s) :
  Sem.wp (model prog w) Γ (denote table (.builtin id args)) (fun a _ s' => Q a s') (fun e _ s' => E e s') p s := by
 have plain : Sem.wp (model prog w) Γ (fastDen (.builtin id args)) (fun a _ s' => Q a s') (fun e _ s' => E e s') p s → Sem.wp (model prog w) Γ (denote table (.builtin id args)) (fun a _ s' => Q a s') (fun e _ s' => E e s') p s := fun y => by rw [fastDen_eq]; exact y
 obtain ⟨pos, kw⟩ := args
 unfold iaddQ at z
 split at z
 ·rename_i x y hpos
  simp only at hpos
  subst hpos
  split at z
  ·exact plain z
  ·rename_i hkw
   simp only at hkw
   subst hkw
   split at z
   ·rename_i l
    split at z
    ·rename_i I
     rw [Sem.wp_load] at z
     obtain ⟨o, ho, z⟩ := z
     split at z
     ·exact plain z
     ·rename_i hg
      rw [Sem.wp_load] at z
      obtain ⟨o', ho', z⟩ := z
      split at z
      ·cases z
      ·rename_i hn
       rw [Sem.wp_update] at z
       obtain ⟨_, z⟩ := z
       rw [Sem.wp_update] at z
       obtain ⟨_, z⟩ := z
       rw [Sem.wp_pure] at z
       obtain ⟨g, hg⟩ := isGen_ok ho hg
       obtain ⟨n, hd⟩ := isNil_ok hn
       show Sem.wp (model prog w) Γ (match entryFor table id with | some b => b _ | none => unsupported ((withoutEnding? id "#data").getD id)) _ _ p s
       rw [hid]
       show Sem.wp (model prog w) Γ (Builtin.List.listExtendWith (.ref l) (.ref I) (.ref l)) _ _ p s
       exact wpAny_extend_gen hg ho' hd z Γ p hin
    ·exact plain z
   ·exact plain z
 ·exact plain z
theorem cUnits_le (c : Code) : c.cUnits ≤ 10 := by
 have hf := frames_le c
 unfold Code.cUnits
 split <;> lia
theorem strNew_at {prog : Program} {w : World} {A : Around} {args : Args} {Q : PySem.Fin → Shared → Prop} {E : Value → Shared → Prop} {s : Shared} {Γ : Ctx} {p : Pos} {id : String} (hid : entryFor table id = some Builtin.«str.__new__») (R : Room A Γ)
  (z : Sem.wp (model prog w) Γ (strNewQ args) (fun a _ s' => Q a s') (fun e _ s' => E e s') p s) : Sem.wp (model prog w) Γ (denote table (.builtin id args)) (fun a _ s' => Q a s') (fun e _ s' => E e s') p s := by
 show Sem.wp (model prog w) Γ (match entryFor table id with | some b => b args | none => unsupported ((withoutEnding? id "#data").getD id)) _ _ p s
 rw [hid, Fast.te4232493443535541497]
 exact strNewQ_le R args _ _ _ _ z
theorem strN_eq : PySem.code "str.__new__" = strN := by decide +kernel
theorem denQ_own {prog : Program} {w : World} {A : Around} {c : Code} {Q : PySem.Fin → Shared → Prop} {E : Value → Shared → Prop} {s : Shared}
  (hd : A.depth + 10 < recursionLimit) (hu : A.units + 10 < cLine) (x : wpOwn (model prog w) A c (denQ c) Q E s) : wpOwn (model prog w) A c (denote table c) Q E s := by
 have room : notCaller c = true → ∀ Γ : Ctx, Γ.code = c → Γ.Below A → Room (A.under c) Γ := fun q Γ hcd hΓ => ⟨hcd ▸ hΓ.in, by
  have := weight_le q
  show A.depth + Code.weight c < recursionLimit
  lia, by
  have := cUnits_le c
  show A.units + c.cUnits < cLine
  lia⟩
 have same : denQ c = fastDen c → wpOwn (model prog w) A c (denote table c) Q E s := fun e => by rw [e] at x; rw [fastDen_eq]; exact x
 cases c with
 | compStart e depth it acc env => exact compQ_own x
 | func body env =>
  have e : denQ (.func body env) = match lawFn env with
   | true => funcQ body env
   | false => fastDen (.func body env) := rfl
  cases q : lawFn env with
  | false => exact same (by rw [e, q])
  | true =>
   rw [e, q] at x
   exact fun Γ p hcd hΓ => funcQ_le (room rfl Γ hcd hΓ) (noComp hcd rfl rfl rfl) body env _ _ _ _ (x Γ p hcd hΓ)
 | whileLoop test body orelse env =>
  have e : denQ (.whileLoop test body orelse env) = match lawFn env with
   | true => whileQ test body orelse env
   | false => fastDen (.whileLoop test body orelse env) := rfl
  cases q : lawFn env with
  | false => exact same (by rw [e, q])
  | true =>
   rw [e, q] at x
   exact fun Γ p hcd hΓ => whileQ_le (room rfl Γ hcd hΓ) test body orelse env _ _ _ _ (x Γ p hcd hΓ)
 | forLoop target it body orelse env =>
  have e : denQ (.forLoop target it body orelse env) = match lawFn env with
   | true => forQ target it body orelse env
   | false => fastDen (.forLoop target it body orelse env) := rfl
  cases q : lawFn env with
  | false => exact same (by rw [e, q])
  | true =>
   rw [e, q] at x
   exact fun Γ p hcd hΓ => forQ_le (room rfl Γ hcd hΓ) (noComp hcd rfl rfl rfl) target it body orelse env _ _ _ _ (x Γ p hcd hΓ)
 | call f args =>
  cases f with
  | ref a =>
   intro Γ p hcd hΓ
   have z := x Γ p hcd hΓ
   have e : denQ (.call (.ref a) args) = .load a none fun o => match o.data with
    | .func fd => match fd.scope.isGenerator, fd.scope.isCoroutine with
     | false, false => callFnQ a fd args
     | _, _ => fastDen (.call (.ref a) args)
    | _ => fastDen (.call (.ref a) args) := rfl
   rw [e, Sem.wp_load] at z
   obtain ⟨o, ho, z⟩ := z
   have plain : Sem.wp (model prog w) Γ (fastDen (.call (.ref a) args)) (fun a _ s' => Q a s') (fun e _ s' => E e s') p s → Sem.wp (model prog w) Γ (denote table (.call (.ref a) args)) (fun a _ s' => Q a s') (fun e _ s' => E e s') p s := fun y => by rw [fastDen_eq]; exact y
   cases hdt : o.data with
   | func fd =>
    cases hg : fd.scope.isGenerator with
    | true => simp only [hdt, hg] at z; exact plain z
    | false =>
     cases hc : fd.scope.isCoroutine with
     | true => simp only [hdt, hg, hc] at z; exact plain z
     | false =>
      simp only [hdt, hg, hc] at z
      show Sem.wp (model prog w) Γ (callAny (.ref a) args) _ _ p s
      simp only [callAny]
      rw [Sem.wp_bind']
      show Sem.wp (model prog w) Γ (.load a none .pure) _ _ p s
      rw [Sem.wp_load]
      refine ⟨o, ho, ?_⟩
      rw [Sem.wp_pure]
      simp only [hdt]
      refine callFn_at (A := A) (Nat.lt_of_le_of_lt ?_ hd) hg hc hcd hΓ z
      have := weight_le (c := .call (.ref a) args) rfl
      show A.depth + Code.weight _ ≤ A.depth + 10
      lia
   | _ => simp only [hdt] at z; exact plain z
  | _ => exact same rfl
 | builtin id args =>
  have e : denQ (.builtin id args) = match Nat.beq (PySem.W.S.codeS id) genN with
   | true => genQ args
   | false => match Nat.beq (PySem.W.S.codeS id) iaddN with
    | true => iaddQ (.builtin id args) args
    | false => match Nat.beq (PySem.W.S.codeS id) strN with
     | true => strNewQ args
     | false => fastDen (.builtin id args) := rfl
  cases q : Nat.beq (PySem.W.S.codeS id) genN with
  | false =>
   cases q2 : Nat.beq (PySem.W.S.codeS id) iaddN with
   | false =>
    cases q3 : Nat.beq (PySem.W.S.codeS id) strN with
    | false => exact same (by rw [e, q, q2, q3])
    | true =>
     rw [e, q, q2, q3] at x
     have hid : id = "str.__new__" := by
      have := Nat.eq_of_beq_eq_true q3
      rw [← PySem.W.S.code_S, ← strN_eq] at this
      exact code_inj _ _ this
     have hb : entryFor table id = some Builtin.«str.__new__» := by rw [hid]; exact F.entry_str_new
     have nc : notCaller (.builtin id args) = true := by
      show (!(Nat.beq (PySem.W.S.codeS id) callerN)) = true
      rw [Nat.eq_of_beq_eq_true q3]
      rfl
     intro Γ p hcd hΓ
     exact strNew_at hb (room nc Γ hcd hΓ) (x Γ p hcd hΓ)
   | true =>
    rw [e, q, q2] at x
    have hid : id = "list.__iadd__" := by
     have := Nat.eq_of_beq_eq_true q2
     rw [← PySem.W.S.code_S, ← iaddN_eq] at this
     exact code_inj _ _ this
    have hb : entryFor table id = some Builtin.«list.__iadd__» := by rw [hid]; exact F.entry_list_iadd
    intro Γ p hcd hΓ
    exact iaddQ_at (A := A) hb (hcd ▸ hΓ.in) (x Γ p hcd hΓ)
  | true =>
   rw [e, q] at x
   have hid : id = "generator.__next__" := by
    have := Nat.eq_of_beq_eq_true q
    rw [← PySem.W.S.code_S, ← genN_eq] at this
    exact code_inj _ _ this
   subst hid
   intro Γ p hcd hΓ
   refine genQ_at (A := A) entry_gen_next (Nat.lt_of_le_of_lt ?_ hd) hcd hΓ fun p => x Γ p hcd hΓ
   have := weight_le (c := .builtin "generator.__next__" args) (by
    show (!(Nat.beq (PySem.W.S.codeS "generator.__next__") callerN)) = true
    rw [← PySem.W.S.code_S, genN_eq]
    decide +kernel)
   show A.depth + Code.weight _ ≤ A.depth + 10
   lia
 | _ => exact same rfl
theorem arnd_units (A : Around) : ∀ κ, depOk A κ → (arnd A κ).units ≤ A.units + 20 * κ.len
 | .base, _ => Nat.le_refl _
 | .ret c _ κ, h => by
  have := arnd_units A κ h.2.2
  show (arnd A κ).units + c.cUnits ≤ A.units + 20 * (κ.len + 1)
  have := cUnits_le c
  lia
 | .gen .., _ => Nat.le_add_right _ _
noncomputable def OraOk (prog : Program) (w : World) (need : Led) (ce : Code) (v : Nat → Value) (d : Nat) : Prop :=
 ∀ (A : Around) (h : Heap) (gl : Array GenState) (dr : Drawn) (t : Nat) (os : OsState) (R : Result → Shared → Prop), (∀ p ∈ need, h.get? p.1 = some p.2) →
  A.handled = none → R (.ok (.ret (v t))) ⟨h, gl, dr, t + d, os⟩ → codeAny (model prog w) A ce R ⟨h, gl, dr, t, os⟩
noncomputable def MovOk (V : RV) (idx : List Nat) (need : Led) (ce : Code) (v : Nat → Nat → Result) (d : Nat) (ups : List Obj) (news : Nat → List Obj) : Prop :=
 ∀ (B : Base), B.V = V → ∀ (A : Around) (h : Heap) (gl : List GenState) (dr : Drawn) (t : Nat) (os : OsState) (R : Result → Shared → Prop) (l : Led) (n : Nat), pick l idx = need →
  A.handled = none → A.depth + 10 < recursionLimit → A.units + 10 < cLine → St B h l n →
  (∀ h', St B h' (pushAll n (news n) (setAll l idx ups)) (n + (news n).length) → R (v n t) ⟨h', ⟨gl⟩, dr, t + d, os⟩) → codeAny (model V.prog V.w) A ce R ⟨h, ⟨gl⟩, dr, t, os⟩
noncomputable def GapOk (B : Base) (A : Around) (K : Nat) (idx : List Nat) (need : Led) (ce : Code) (v : (Nat → Nat) → Result) (ups : (Nat → Nat) → List Obj) : Prop :=
 ∀ (κ : RK) (h : Heap) (gl : List GenState) (dr : Drawn) (t : Nat) (os : OsState) (R : Result → Shared → Prop) (l : Led) (n : Nat), depOk A κ → κ.len ≤ K → pick l idx = need → St B h l n →
  (∀ φ h', St B h' (setAll l idx (ups φ)) (φ 0 + 186) → R (v φ) ⟨h', ⟨gl⟩, dr, φ 1, os⟩) → codeAny (model B.V.prog B.V.w) (arnd A κ) ce R ⟨h, ⟨gl⟩, dr, t, os⟩
inductive ActI (B : Base) (A : Around) : Act → Prop
 | cut : ActI B A .cut
 | ora {idx need ce v d} (h : OraOk B.V.prog B.V.w need ce v d) : ActI B A (.ora idx need ce v d)
 | mov {idx need ce v d ups news} (h : MovOk B.V idx need ce v d ups news) : ActI B A (.mov idx need ce v d ups news)
 | gap {K idx need ce v ups rest} (h : GapOk B A K idx need ce v ups) (g : ∀ φ, ∀ q ∈ rest φ, ActI B A q.2) : ActI B A (.gap K idx need ce v ups rest)
noncomputable def ActOk (B : Base) (A : Around) : Act → Prop
 | .cut => True
 | .gap K idx need ce v ups rest => GapOk B A K idx need ce v ups ∧ ∀ φ, ∀ q ∈ rest φ, ActI B A q.2
 | .mov idx need ce v d ups news => MovOk B.V idx need ce v d ups news
 | .ora _ need ce v d => OraOk B.V.prog B.V.w need ce v d
theorem ActI.ok {B : Base} {A : Around} {a : Act} (h : ActI B A a) : ActOk B A a := by
 cases h with
 | cut => exact trivial
 | ora h => exact h
 | mov h => exact h
 | gap h g => exact ⟨h, g⟩
noncomputable def Pass (t tr : Sem PySem.Fin) : Prop :=
 ∀ (M : Model) (A : Around) (c : Code) (Q : PySem.Fin → Shared → Prop) (E : Value → Shared → Prop) (s : Shared), (A.under c).depth < recursionLimit → (A.under c).units < cLine → s.heap.NoLimit → wpOwn M A c tr Q E s → wpOwn M A c t Q E s
noncomputable def Sim (B : Base) (A : Around) (R : Result → Shared → Prop) (dr : Drawn) (os : OsState) (md : Option (List Frame)) (κ : RK) (c : Code) (tr : Sem PySem.Fin) (l : Led) (n t : Nat) (gl : List GenState) : Prop :=
 ∀ h, St B h l n → MnsM B A R md κ c tr ⟨h, ⟨gl⟩, dr, t, os⟩
noncomputable def Fine (B : Base) (A : Around) (R : Result → Shared → Prop) (dr : Drawn) (os : OsState) : RO → Prop
 | .bad _ => False
 | .frk f => ∀ p, Fine B A R dr os (f p)
 | .sfk f => ∀ x, Fine B A R dr os (f x)
 | .nfk f => ∀ φ, Fine B A R dr os (f φ)
 | .stk c k g => (∀ x : SX, Fine B A R dr os (g (k ((c, x.1) :: x.2.1)))) ∨ ∃ tr, Pass (.stack k) tr ∧ Fine B A R dr os (g tr)
 | .done r l n t gl x y => x = y ∧ ∀ h, St B h l n → R r ⟨h, ⟨gl⟩, dr, t, os⟩
 | .cut κ c l n t gl x y => x = y ∧ (depOk A κ → ∀ h, St B h l n → codeAny (model B.V.prog B.V.w) (arnd A κ) c (endK B A R κ) ⟨h, ⟨gl⟩, dr, t, os⟩)
theorem s_ora {prog : Program} {w : World} {A : Around} {c : Code} {fs : List Frame} {P : End → Shared → Prop} {s : Shared} {c' : Code} {g : Bool} {l : List Value} {k : Result → Sem PySem.Fin}
  (x : codeAny (model prog w) (A.over c fs) c' (fun r s' => SegX (model prog w) A c (k r) fs s' P) s) : SegX (model prog w) A c (.call c' none g l k) fs s P := by
 refine s_cmd prog w A c fs P (m := Sem.call c' none g l Sem.pure) (k := k) ?_
 intro Γ p hΓ
 rw [Sem.wp_call]
 refine wpCode_mono ?_ (x _ p rfl (hΓ.enter c' none p (by intro x; cases x)))
 intro r s' h
 rw [Sem.wp_pure]
 exact h
section
variable {B : Base} {A : Around} {R : Result → Shared → Prop} {dr : Drawn} {os : OsState}
theorem Acc.inj1 {a a' : Nat} {x y : Acc} (h : (⟨a :: x.a, x.c, x.p⟩ : Acc) = ⟨a' :: y.a, y.c, y.p⟩) : a = a' ∧ x = y := by
 obtain ⟨xa, xc, xp⟩ := x
 obtain ⟨ya, yc, yp⟩ := y
 injection h with h1 h2 h3
 injection h1 with h1 h4
 exact ⟨h1, by simp_all⟩
theorem Acc.inj2 {c c' : Code} {p p' : Led} {x y : Acc} (h : (⟨x.a, c :: x.c, p :: x.p⟩ : Acc) = ⟨y.a, c' :: y.c, p' :: y.p⟩) : c = c' ∧ p = p' ∧ x = y := by
 obtain ⟨xa, xc, xp⟩ := x
 obtain ⟨ya, yc, yp⟩ := y
 injection h with h1 h2 h3
 injection h2 with h2 h4
 injection h3 with h3 h5
 exact ⟨h2, h3, by simp_all⟩
variable (O : B.Ok) (hA : AOk A 140) (ih : RunTy)
 (IH : ∀ ls qs c md κ tr l n t gl x y, (∀ q ∈ qs, ActOk B A q.2) → depOk A κ → Fine B A R dr os (ih ls qs c md κ tr l n t gl x y) → x = y ∧ Sim B A R dr os md κ c tr l n t gl)
include IH
theorem pops_ok {ls : List Nat} {qs : List (Nat × Act)} {r : Result} {md : Option (List Frame)} {κ : RK} {l : Led} {n t : Nat} {gl : List GenState} {x y : Acc} (hq : ∀ q ∈ qs, ActOk B A q.2) (hd : depOk A κ)
  (H : Fine B A R dr os (pops ih ls qs r md κ l n t gl x y)) : x = y ∧ (md = none → ∀ h, St B h l n → endK B A R κ r ⟨h, ⟨gl⟩, dr, t, os⟩) ∧ ∀ c, Sim B A R dr os md κ c (leafOf r) l n t gl := by
 cases md with
 | none =>
  have key : x = y ∧ ∀ h, St B h l n → endK B A R κ r ⟨h, ⟨gl⟩, dr, t, os⟩ := by
   cases κ with
   | base => exact H
   | ret c k κ => exact IH _ _ _ _ _ _ _ _ _ _ _ _ hq hd.2.2 H
   | gen => cases H
  refine ⟨key.1, fun _ => key.2, fun c h S => ?_⟩
  cases r with
  | ok f => exact y_pure _ _ _ _ _ _ _ _ _ (y_done _ _ _ _ _ _ (key.2 h S))
  | error e => exact y_raise _ _ _ _ _ _ _ _ _ (y_err _ _ _ (key.2 h S))
 | some fs =>
  cases fs with
  | nil =>
   cases κ with
   | gen g c k κ =>
    obtain ⟨e, z⟩ := IH _ _ _ _ _ _ _ _ _ _ _ _ hq hd.2.2 H
    refine ⟨e, fun x => (by cases x), fun c₁ h S => s_end _ _ _ _ _ _ r _ rfl ?_⟩
    have y := z h S
    rw [← set_gens] at y
    exact y
   | base => cases H
   | ret => cases H
  | cons f fs =>
   cases f with
   | ret k hd' g lv c₁ p₁ kp =>
    obtain ⟨e, z⟩ := IH _ _ _ _ _ _ _ _ _ _ _ _ hq hd H
    exact ⟨e, fun x => (by cases x), fun c h S => s_pop _ _ _ _ _ _ _ r _ rfl k hd' g lv c₁ p₁ kp (z h S)⟩
   | gen => cases H
include hA O
theorem den_ok {c : Code} {κ : RK} {l : Led} {n t : Nat} {gl : List GenState} (hd : depOk A κ) (z : Sim B A R dr os none κ c (denQ c) l n t gl) : ∀ h, St B h l n → codeAny (model B.V.prog B.V.w) (arnd A κ) c (endK B A R κ) ⟨h, ⟨gl⟩, dr, t, os⟩ := by
 have dep : (arnd A κ).depth + 10 < recursionLimit := by
  have h1 := arnd_depth A κ hd
  have h2 := depOk_len A κ hd
  have := hA.depth
  lia
 have un : (arnd A κ).units + 10 < cLine := by
  have h1 := arnd_units A κ hd
  have h2 := depOk_len A κ hd
  have := hA.units
  lia
 exact fun h S => y_code _ _ _ _ _ _ (denQ_own dep un (z h S))
theorem goC_ok {ls : List Nat} {qs : List (Nat × Act)} {c : Code} {κ : RK} {l : Led} {n t : Nat} {gl : List GenState} {x y : Acc} (hq : ∀ q ∈ qs, ActOk B A q.2) (hd : depOk A κ)
  (H : Fine B A R dr os (goC ih ls qs c none κ l n t gl x y)) : x = y ∧ ∀ h, St B h l n → codeAny (model B.V.prog B.V.w) (arnd A κ) c (endK B A R κ) ⟨h, ⟨gl⟩, dr, t, os⟩ := by
 cases qs with
 | nil =>
  obtain ⟨e, z⟩ := IH _ _ _ _ _ _ _ _ _ _ _ _ hq hd H
  exact ⟨e, den_ok O hA ih IH hd z⟩
 | cons q qs =>
  obtain ⟨j, act⟩ := q
  cases j with
  | zero =>
   cases act with
   | cut => exact ⟨H.1, H.2 hd⟩
   | gap K idx need ce v ups rest =>
    obtain ⟨ok, okr⟩ : GapOk B A K idx need ce v ups ∧ ∀ φ, ∀ q ∈ rest φ, ActI B A q.2 := hq _ (.head _)
    have H₁ : Fine B A R dr os (match Nat.ble κ.len K with
     | true => .nfk fun φ => pops ih ls (rest φ) (v φ) none κ (setAll l idx (ups φ)) (φ 0 + 186) (φ 1) gl ⟨x.a, c :: x.c, pick l idx :: x.p⟩ ⟨y.a, ce :: y.c, need :: y.p⟩
     | false => .bad 47) := H
    split at H₁
    ·rename_i hb
     have H' : ∀ φ, Fine B A R dr os (pops ih ls (rest φ) (v φ) none κ (setAll l idx (ups φ)) (φ 0 + 186) (φ 1) gl ⟨x.a, c :: x.c, pick l idx :: x.p⟩ ⟨y.a, ce :: y.c, need :: y.p⟩) := H₁
     have z := fun φ => pops_ok ih IH (fun q m => (okr φ q m).ok) hd (H' φ)
     obtain ⟨e, _, _⟩ := z fun _ => 0
     obtain ⟨e1, e2, e3⟩ := Acc.inj2 e
     refine ⟨e3, fun h S => ?_⟩
     subst e1
     exact ok κ _ _ _ _ _ _ _ _ hd (Nat.le_of_ble_eq_true hb) e2 S fun φ h' S' => (z φ).2.1 rfl h' S'
    ·cases H₁
   | mov idx need ce v d ups news =>
    have ok : MovOk B.V idx need ce v d ups news := hq _ (.head _)
    have H' : Fine B A R dr os (pops ih ls qs (v n t) none κ (pushAll n (news n) (setAll l idx ups)) (n + (news n).length) (t + d) gl ⟨x.a, c :: x.c, pick l idx :: x.p⟩ ⟨y.a, ce :: y.c, need :: y.p⟩) := H
    obtain ⟨e, y, _⟩ := pops_ok ih IH (fun q m => hq q (.tail _ m)) hd H'
    obtain ⟨e1, e2, e3⟩ := Acc.inj2 e
    refine ⟨e3, fun h S => ?_⟩
    subst e1
    have dep : (arnd A κ).depth + 10 < recursionLimit := by
     have h1 := arnd_depth A κ hd
     have h2 := depOk_len A κ hd
     have := hA.depth
     lia
    have un : (arnd A κ).units + 10 < cLine := by
     have h1 := arnd_units A κ hd
     have h2 := depOk_len A κ hd
     have := hA.units
     lia
    exact ok B rfl _ _ _ _ _ _ _ _ _ e2 (by rw [arnd_handled]; exact hA.handled) dep un S (y rfl)
   | ora idx need ce v d =>
    have ok : OraOk B.V.prog B.V.w need ce v d := hq _ (.head _)
    have H' : Fine B A R dr os (pops ih ls qs (.ok (.ret (v t))) none κ l n (t + d) gl ⟨x.a, c :: x.c, pick l idx :: x.p⟩ ⟨y.a, ce :: y.c, need :: y.p⟩) := H
    obtain ⟨e, y, _⟩ := pops_ok ih IH (fun q m => hq q (.tail _ m)) hd H'
    obtain ⟨e1, e2, e3⟩ := Acc.inj2 e
    refine ⟨e3, fun h S => ?_⟩
    subst e1 e2
    exact ok _ _ _ _ _ _ _ (fun p hp => S.led p (pick_mem hp)) (by rw [arnd_handled]; exact hA.handled) (y rfl h S)
  | succ j =>
   obtain ⟨e, z⟩ := IH ls ((j, act) :: qs) c none κ (denQ c) l n t gl x y (fun q m => by
    rcases List.mem_cons.mp m with rfl | m
    ·exact hq (j + 1, act) (.head _)
    ·exact hq q (.tail _ m)) hd H
   exact ⟨e, den_ok O hA ih IH hd z⟩
omit O in
theorem goS_ok {ls : List Nat} {qs : List (Nat × Act)} {c : Code} {fs : List Frame} {κ : RK} {l : Led} {n t : Nat} {gl : List GenState} {x y : Acc} (hq : ∀ q ∈ qs, ActOk B A q.2) (hd : depOk A κ)
  (H : Fine B A R dr os (goC ih ls qs c (some fs) κ l n t gl x y)) : x = y ∧ Sim B A R dr os (some fs) κ c (denote table c) l n t gl := by
 rw [fastDen_eq]
 cases qs with
 | nil => exact IH _ _ _ _ _ _ _ _ _ _ _ _ hq hd H
 | cons q qs =>
  obtain ⟨j, act⟩ := q
  cases j with
  | zero => cases H
  | succ j =>
   exact IH ls ((j, act) :: qs) c (some fs) κ (fastDen c) l n t gl x y (fun q m => by
    rcases List.mem_cons.mp m with rfl | m
    ·exact hq (j + 1, act) (.head _)
    ·exact hq q (.tail _ m)) hd H
omit O in
theorem goG_ok {ls : List Nat} {qs : List (Nat × Act)} {c : Code} {k : Result → Sem PySem.Fin} {g : Bool} {lv : List Value} {c' : Code} {fs : List Frame} {κ : RK} {l : Led} {n t : Nat} {gl : List GenState} {x y : Acc} (hq : ∀ q ∈ qs, ActOk B A q.2) (hd : depOk A κ)
  (H : Fine B A R dr os (goG ih ls qs c k g lv c' fs κ l n t gl x y)) : x = y ∧ Sim B A R dr os (some fs) κ c (.call c' none g lv k) l n t gl := by
 have frk : ∀ {qs}, (∀ q ∈ qs, ActOk B A q.2) → Fine B A R dr os (.frk fun p => ih ls qs c' (some (.ret k none g lv c p [] :: fs)) κ (fastDen c') l n t gl x y) → x = y ∧ Sim B A R dr os (some fs) κ c (.call c' none g lv k) l n t gl := by
  intro qs hq H
  have z := fun p => IH _ _ _ _ _ _ _ _ _ _ _ _ hq hd (H p)
  refine ⟨(z default).1, fun h S => s_call _ _ _ _ _ _ _ _ _ _ _ _ fun p => ?_⟩
  rw [fastDen_eq]
  exact (z p).2 h S
 cases qs with
 | nil => exact frk hq H
 | cons q qs =>
  obtain ⟨j, act⟩ := q
  cases j with
  | zero =>
   cases act with
   | cut => cases H
   | mov => cases H
   | gap => cases H
   | ora idx need ce v d =>
    simp only [goG] at H
    split at H
    ·rename_i q
     have ok : OraOk B.V.prog B.V.w need ce v d := hq _ (.head _)
     obtain ⟨e, z⟩ := IH _ _ _ _ _ _ _ _ _ _ _ _ (fun q m => hq q (.tail _ m)) hd H
     obtain ⟨e1, e2, e3⟩ := Acc.inj2 e
     refine ⟨e3, fun h S => ?_⟩
     subst e1 e2
     exact s_ora (ok _ _ _ _ _ _ _ (fun p hp => S.led p (pick_mem hp)) (over_handled _ _ _ q (by rw [arndG_handled]; exact hA.handled)) (z h S))
    ·cases H
  | succ j =>
   exact frk (fun q m => by
    rcases List.mem_cons.mp m with rfl | m
    ·exact hq (j + 1, act) (.head _)
    ·exact hq q (.tail _ m)) H
theorem stepQ_ok : ∀ ls qs c md κ tr l n t gl x y, (∀ q ∈ qs, ActOk B A q.2) → depOk A κ → Fine B A R dr os (stepQ B.V ih ls qs c md κ tr l n t gl x y) → x = y ∧ Sim B A R dr os md κ c tr l n t gl := by
 intro ls qs c md κ tr l n t gl x y hq hd H
 cases tr with
 | pure fin =>
  cases fin with
  | done f =>
   obtain ⟨e, _, z⟩ := pops_ok ih IH hq hd H
   exact ⟨e, z c⟩
  | again c' =>
   cases q : c'.quiet with
   | false => simp only [stepQ, q] at H; cases H
   | true =>
    simp only [stepQ, q] at H
    cases md with
    | none =>
     obtain ⟨e, z⟩ := goC_ok O hA ih IH hq hd H
     exact ⟨e, fun h S => y_pure _ _ _ _ _ _ _ _ _ (y_again _ _ _ _ _ _ q (z h S))⟩
    | some fs =>
     obtain ⟨e, z⟩ := goS_ok hA ih IH hq hd H
     exact ⟨e, fun h S => s_again _ _ _ _ _ _ _ _ q (z h S)⟩
 | raise v =>
  obtain ⟨e, _, z⟩ := pops_ok ih IH hq hd H
  exact ⟨e, z c⟩
 | rule tag k =>
  obtain ⟨e, z⟩ := IH _ _ _ _ _ _ _ _ _ _ _ _ hq hd H
  refine ⟨e, fun h S => ?_⟩
  cases md with
  | none => exact y_skim _ _ _ _ _ _ _ _ _ 1 (z h S)
  | some fs => exact s_skim _ _ _ _ _ _ _ _ 1 (z h S)
 | «at» q k =>
  obtain ⟨e, z⟩ := IH _ _ _ _ _ _ _ _ _ _ _ _ hq hd H
  refine ⟨e, fun h S => ?_⟩
  cases md with
  | none => exact y_skim _ _ _ _ _ _ _ _ _ 1 (z h S)
  | some fs => exact s_skim _ _ _ _ _ _ _ _ 1 (z h S)
 | point q k =>
  obtain ⟨e, z⟩ := IH _ _ _ _ _ _ _ _ _ _ _ _ hq hd H
  refine ⟨e, fun h S => ?_⟩
  cases md with
  | none => exact y_skim _ _ _ _ _ _ _ _ _ 1 (z h S)
  | some fs => exact s_skim _ _ _ _ _ _ _ _ 1 (z h S)
 | ask k =>
  obtain ⟨e, z⟩ := IH _ _ _ _ _ _ _ _ _ _ _ _ hq hd H
  refine ⟨e, fun h S => ?_⟩
  cases md with
  | none => exact y_skim _ _ _ _ _ _ _ _ _ 1 (z h S)
  | some fs => exact s_skim _ _ _ _ _ _ _ _ 1 (z h S)
 | load a q k =>
  have go : ∀ {o : Obj}, (∀ h, St B h l n → h.get? a = some o) → Sim B A R dr os md κ c (k o) l n t gl → Sim B A R dr os md κ c (.load a q k) l n t gl := fun ho z h S => by
   cases md with
   | none => exact y_load _ _ _ _ _ _ _ _ _ _ _ _ _ _ _ _ (ho h S) (z h S)
   | some fs => exact s_load _ _ _ _ _ _ _ _ _ _ _ _ _ _ _ (ho h S) (z h S)
  cases ls with
  | nil => cases H
  | cons i ls =>
   cases i with
   | zero =>
    simp only [stepQ] at H
    split at H
    ·rename_i o eo
     obtain ⟨e, z⟩ := IH _ _ _ _ _ _ _ _ _ _ _ _ hq hd H
     exact ⟨e, go (fun h S => S.look O eo) z⟩
    ·cases H
   | succ i =>
    simp only [stepQ] at H
    split at H
    ·rename_i p ep
     obtain ⟨e, z⟩ := IH _ _ _ _ _ _ _ _ _ _ _ _ hq hd H
     obtain ⟨e1, e2⟩ := Acc.inj1 e
     subst e1
     exact ⟨e2, go (fun h S => S.at ep) z⟩
    ·cases H
 | loadIfAlive a k =>
  have go : ∀ {o : Obj}, (∀ h, St B h l n → h.get? a = some o) → Sim B A R dr os md κ c (k (some o)) l n t gl → Sim B A R dr os md κ c (.loadIfAlive a k) l n t gl := fun ho z h S => by
   cases md with
   | none => exact y_alive _ _ _ _ _ _ _ _ _ _ _ _ _ _ _ (ho h S) (z h S)
   | some fs => exact s_alive _ _ _ _ _ _ _ _ _ _ _ _ _ _ (ho h S) (z h S)
  cases ls with
  | nil => cases H
  | cons i ls =>
   cases i with
   | zero =>
    simp only [stepQ] at H
    split at H
    ·rename_i o eo
     obtain ⟨e, z⟩ := IH _ _ _ _ _ _ _ _ _ _ _ _ hq hd H
     exact ⟨e, go (fun h S => S.look O eo) z⟩
    ·cases H
   | succ i =>
    simp only [stepQ] at H
    split at H
    ·rename_i p ep
     obtain ⟨e, z⟩ := IH _ _ _ _ _ _ _ _ _ _ _ _ hq hd H
     obtain ⟨e1, e2⟩ := Acc.inj1 e
     subst e1
     exact ⟨e2, go (fun h S => S.at ep) z⟩
    ·cases H
 | alloc o k =>
  cases hf : o.isFreed with
  | true => simp only [stepQ, hf] at H; cases H
  | false =>
   simp only [stepQ, hf] at H
   obtain ⟨e, z⟩ := IH _ _ _ _ _ _ _ _ _ _ _ _ hq hd H
   refine ⟨e, fun h S => ?_⟩
   have := z (h.push o) (S.alloc hf)
   cases md with
   | none =>
    refine wpOwn_bind (m := PySem.alloc o) (f := k) (wpOwn_of_wpAny (wpAny_alloc ?_))
    rw [S.size]; exact this
   | some fs =>
    refine s_cmd _ _ _ _ _ _ (m := PySem.alloc o) (k := k) (wpAny_alloc ?_)
    rw [S.size]; exact this
 | update a q f k =>
  cases ls with
  | nil => cases H
  | cons i ls =>
   cases i with
   | zero => cases H
   | succ i =>
    simp only [stepQ] at H
    split at H
    ·rename_i p ep
     split at H
     ·cases H
     ·rename_i hf
      obtain ⟨e, z⟩ := IH _ _ _ _ _ _ _ _ _ _ _ _ hq hd H
      obtain ⟨e1, e2⟩ := Acc.inj1 e
      subst e1
      refine ⟨e2, fun h S => ?_⟩
      cases md with
      | none => exact wpOwn_bind (m := updatePart p.1 q f) (f := k) (wpOwn_of_wpAny (wpAny_updatePart (S.at ep) (z _ (S.update ep hf))))
      | some fs => exact s_cmd _ _ _ _ _ _ (m := updatePart p.1 q f) (k := k) (wpAny_updatePart (S.at ep) (z _ (S.update ep hf)))
    ·cases H
 | fresh k =>
  obtain ⟨e, z⟩ := IH _ _ _ _ _ _ _ _ _ _ _ _ hq hd H
  refine ⟨e, fun h S => ?_⟩
  cases md with
  | none => exact y_fresh _ _ _ _ _ _ _ _ _ _ _ _ _ (z h S)
  | some fs => exact s_fresh _ _ _ _ _ _ _ _ _ _ _ _ (z h S)
 | handled own k =>
  cases own with
  | true => cases H
  | false =>
   cases md with
   | none =>
    obtain ⟨e, z⟩ := IH _ _ _ _ _ _ _ _ _ _ _ _ hq hd H
    refine ⟨e, fun h S => y_handled _ _ _ _ _ _ _ _ _ ?_⟩
    rw [arnd_handled, hA.handled]
    exact z h S
   | some fs =>
    simp only [stepQ] at H
    split at H
    ·rename_i q
     obtain ⟨e, z⟩ := IH _ _ _ _ _ _ _ _ _ _ _ _ hq hd H
     refine ⟨e, fun h S => s_handled _ _ _ _ _ _ _ _ ?_⟩
     rw [over_handled _ _ _ q (by rw [arndG_handled]; exact hA.handled)]
     exact z h S
    ·cases H
 | stack k =>
  cases md with
  | none =>
   cases q : notCaller c with
   | false => simp only [stepQ, q] at H; cases H
   | true =>
    simp only [stepQ, q] at H
    rcases H with H | ⟨tr, hp, H⟩
    ·have z := fun (x : SX) => IH _ _ _ _ _ _ _ _ _ _ _ _ hq hd (H x)
     exact ⟨(z default).1, fun h S => y_stack _ _ _ _ _ _ _ _ _ fun p below _ => (z (p, below, fun _ => 0)).2 h S⟩
    ·obtain ⟨e, z⟩ := IH _ _ _ _ _ _ _ _ _ _ _ _ hq hd H
     refine ⟨e, fun h S => hp _ _ _ _ _ _ ?_ ?_ ?_ (z h S)⟩
     ·have h1 := arnd_depth A κ hd
      have h3 := depOk_len A κ hd
      have h4 := hA.depth
      have h5 : ((arnd A κ).under c).depth = (arnd A κ).depth + c.weight := rfl
      have h6 := weight_le q
      lia
     ·have h1 := arnd_units A κ hd
      have h3 := depOk_len A κ hd
      have h4 := hA.units
      have h5 : ((arnd A κ).under c).units = (arnd A κ).units + c.cUnits := rfl
      have h6 := cUnits_le c
      lia
     ·obtain ⟨o, ho, hl⟩ := O.lim
      exact noLim_ok (S.look O ho) hl
  | some fs =>
   have z := fun (x : SX) => IH _ _ _ _ _ _ _ _ _ _ _ _ hq hd (H x)
   exact ⟨(z default).1, fun h S => s_stack _ _ _ _ _ _ _ _ fun p below _ => (z (p, below, fun _ => 0)).2 h S⟩
 | call c' hd' g lv k =>
  cases hd' with
  | some v => cases H
  | none =>
   cases md with
   | none =>
    simp only [stepQ] at H
    split at H
    ·rename_i q
     obtain ⟨q1, q2⟩ := Bool.and_eq_true_iff.mp q
     obtain ⟨e, z⟩ := goC_ok (κ := .ret c k κ) O hA ih IH hq ⟨weight_le q1, Nat.le_of_ble_eq_true q2, hd⟩ H
     exact ⟨e, fun h S => y_call _ _ _ _ _ _ _ _ _ _ _ _ _ (by intro x; cases x) (z h S)⟩
    ·cases H
   | some fs => exact goG_ok hA ih IH hq hd H
 | newGen c' k =>
  obtain ⟨e, z⟩ := IH _ _ _ _ _ _ _ _ _ _ _ _ hq hd H
  refine ⟨e, fun h S => ?_⟩
  cases md with
  | none => exact y_newGen _ _ _ _ _ _ _ _ _ _ _ _ _ _ (by rw [push_gens]; exact z h S)
  | some fs => exact s_newGen _ _ _ _ _ _ _ _ _ _ _ _ _ (by rw [push_gens]; exact z h S)
 | genState g k =>
  simp only [stepQ] at H
  split at H
  ·rename_i gs eg
   obtain ⟨e, z⟩ := IH _ _ _ _ _ _ _ _ _ _ _ _ hq hd H
   refine ⟨e, fun h S => ?_⟩
   cases md with
   | none => exact y_genState _ _ _ _ _ _ _ _ _ _ gs ((get_gens gl g).trans eg) (z h S)
   | some fs => exact s_genState _ _ _ _ _ _ _ _ _ gs ((get_gens gl g).trans eg) (z h S)
  ·cases H
 | resume g r lv k =>
  cases md with
  | some fs => cases H
  | none =>
   simp only [stepQ] at H
   split at H
   ·cases H
   ·rename_i gs eg
    have hg : (⟨gl⟩ : Array GenState)[g]? = some gs := (get_gens gl g).trans eg
    split at H
    ·cases H
    ·rename_i q
     obtain ⟨q1, q2⟩ := Bool.and_eq_true_iff.mp q
     have hd2 : depOk A (.gen g c k κ) := ⟨weight_le q1, Nat.le_of_ble_eq_true q2, hd⟩
     cases gs with
     | fresh c₀ =>
      cases r with
      | throw => cases H
      | send v =>
       cases v with
       | none =>
        obtain ⟨e, z⟩ := IH _ _ _ _ _ _ _ _ _ _ _ _ hq hd2 H
        refine ⟨e, fun h S => ?_⟩
        have y := z h S
        rw [← set_gens] at y
        refine y_resume_f _ _ _ _ _ _ _ _ _ _ _ _ hg ?_
        rw [fastDen_eq]
        exact y
       | _ => cases H
     | suspended k₀ l₀ c₀ p₀ fs₀ cl =>
      obtain ⟨e, z⟩ := IH _ _ _ _ _ _ _ _ _ _ _ _ hq hd2 H
      refine ⟨e, fun h S => ?_⟩
      have y := z h S
      rw [← set_gens] at y
      exact y_resume_s _ _ _ _ _ _ _ _ _ _ _ _ _ _ _ _ _ _ hg y
     | running => cases H
     | finished => cases H
 | yield v gd lv k =>
  cases md with
  | none => cases H
  | some fs =>
   cases gd with
   | true => cases H
   | false =>
    cases hfs : splitAtGen fs with
    | some _ => simp only [stepQ, hfs] at H; cases H
    | none =>
     cases hfg : fs.any Frame.guarded with
     | true => simp only [stepQ, hfs, hfg] at H; cases H
     | false =>
      simp only [stepQ, hfs, hfg] at H
      cases κ with
      | base => cases H
      | ret => cases H
      | gen g c₁ k₁ κ =>
       have z := fun p => IH _ _ _ _ _ _ _ _ _ _ _ _ hq hd.2.2 (H p)
       refine ⟨(z default).1, fun h S => s_yield _ _ _ _ _ _ _ _ _ _ hfs hfg fun p => ?_⟩
       have y := (z p).2 h S
       rw [← set_gens] at y
       exact y
 | _ => cases H
end
theorem run_ok {B : Base} {A : Around} {R : Result → Shared → Prop} {dr : Drawn} {os : OsState} (O : B.Ok) (hA : AOk A 140) : ∀ f ls qs c md κ tr l n t gl x y, (∀ q ∈ qs, ActOk B A q.2) → depOk A κ →
  Fine B A R dr os (run B.V f ls qs c md κ tr l n t gl x y) → x = y ∧ Sim B A R dr os md κ c tr l n t gl
 | 0 => fun _ _ _ _ _ _ _ _ _ _ _ _ _ _ H => by cases H
 | f + 1 => stepQ_ok O hA (run B.V f) (run_ok O hA f)
noncomputable def RO.at (x : SX) : RO → RO
 | .stk c k g => g (k ((c, x.1) :: x.2.1))
 | .frk f => f x.1
 | .sfk f => f x
 | .nfk f => f x.fresh
 | o => o
noncomputable def RO.ats (ps : Nat → SX) : Nat → RO → RO
 | 0, o => o
 | m + 1, o => RO.ats (fun i => ps (i + 1)) m (o.at (ps 0))
noncomputable def RK.code : RK → Code
 | .base => default
 | .ret c _ _ => c
 | .gen _ c _ _ => c
noncomputable def RK.fn : RK → Result → Sem PySem.Fin
 | .base => fun _ => .unsupported ""
 | .ret _ k _ => k
 | .gen .. => fun _ => .unsupported ""
noncomputable def RK.rest : RK → RK
 | .base => .base
 | .ret _ _ κ => κ
 | .gen _ _ _ κ => κ
noncomputable def RO.kont : RO → RK
 | .cut κ _ _ _ _ _ _ _ => κ
 | _ => .base
noncomputable def RO.led : RO → Led
 | .cut _ _ l _ _ _ _ _ => l
 | .done _ l _ _ _ _ _ => l
 | _ => []
noncomputable def RO.gens : RO → List GenState
 | .cut _ _ _ _ _ gl _ _ => gl
 | .done _ _ _ _ gl _ _ => gl
 | _ => []
noncomputable def RO.y : RO → Acc
 | .cut _ _ _ _ _ _ _ y => y
 | .done _ _ _ _ _ _ y => y
 | _ => Acc.nil
noncomputable def RK.rlen : RK → Nat
 | .base => 0
 | .ret _ _ κ => κ.len + 1
 | .gen .. => 0
structure Vw where
 kind : Nat
 res : Result
 code : Code
 len : Nat
 dep : Nat
 led : Led
 n : Nat
 gl : List GenState
 xa : List Nat
 xc : List Code
 xp : List Led
noncomputable abbrev Vw.Is (v : Vw) (kind : Nat) (res : Result) (code : Code) (m : Nat) (led : Led) (n : Nat) (gl : List GenState) (y : Acc) : Prop :=
 (v.kind = kind ∧ v.res = res) ∧ v.code = code ∧ v.len = m ∧ v.dep = m ∧ v.led = led ∧ v.n = n ∧ v.gl = gl ∧ v.xa = y.a ∧ v.xc = y.c ∧ v.xp = y.p
theorem Vw.Is.eq {v : Vw} {kind : Nat} {res : Result} {code : Code} {m : Nat} {led : Led} {n : Nat} {gl : List GenState} {y : Acc} (h : v.Is kind res code m led n gl y) : v = ⟨kind, res, code, m, m, led, n, gl, y.a, y.c, y.p⟩ := by
 obtain ⟨⟨h1, h2⟩, h3, h4, h5, h6, h7, h8, h9, h10, h11⟩ := h
 cases v
 simp_all
noncomputable def RO.vw (is : List Nat) (d : Nat) : RO → Vw
 | .bad w => ⟨0, .error .none, default, w, 0, [], 0, [], [], [], []⟩
 | .stk .. => ⟨3, .error .none, default, 0, 0, [], 0, [], [], [], []⟩
 | .frk _ => ⟨4, .error .none, default, 0, 0, [], 0, [], [], [], []⟩
 | .sfk _ => ⟨5, .error .none, default, 0, 0, [], 0, [], [], [], []⟩
 | .nfk _ => ⟨6, .error .none, default, 0, 0, [], 0, [], [], [], []⟩
 | .done r l n _ gl x _ => ⟨1, r, default, 0, 0, pickT l is d, n, gl, x.a, x.c, x.p⟩
 | .cut κ c l n _ gl x _ => ⟨2, .error .none, c, κ.rlen, κ.len, pickT l is d, n, gl, x.a, x.c, x.p⟩
theorem RK.eta {κ : RK} {m : Nat} (h : κ.rlen = m + 1) : κ = .ret κ.code κ.fn κ.rest := by
 cases κ with
 | base => cases h
 | ret => rfl
 | gen => cases h
structure FineS (B : Base) (A : Around) (R : Result → Shared → Prop) (dr : Drawn) (os : OsState) (o : RO) : Prop where
 ok : Fine B A R dr os o
section
variable {B : Base} {A : Around} {R : Result → Shared → Prop} {dr : Drawn} {os : OsState}
theorem Fine.at {o : RO} (h : ∀ x, Fine B A R dr os (o.at x)) : Fine B A R dr os o := by
 cases o with
 | stk c k g => exact .inl fun x => h x
 | frk f => exact fun p => h (p, [], fun _ => 0)
 | sfk f => exact h
 | nfk f => exact fun φ => h (default, [], φ)
 | _ => exact h default
theorem Fine.ats : ∀ {m : Nat} {o : RO}, (∀ ps, Fine B A R dr os (o.ats ps m)) → Fine B A R dr os o
 | 0, _, h => h fun _ => default
 | m + 1, o, h => Fine.at fun x => Fine.ats (m := m) fun ps => h fun i => match i with
  | 0 => x
  | i + 1 => ps i
theorem endK_mns {κ : RK} {m : Nat} (h : κ.rlen = m + 1) {r : Result} {s : Shared} (z : Mns B A R κ.rest κ.code (κ.fn r) s) : endK B A R κ r s := by
 rw [RK.eta h]
 exact z
theorem depOk_rest {κ : RK} (h : depOk A κ) : depOk A κ.rest := by
 cases κ with
 | base => exact h
 | ret => exact h.2.2
 | gen => exact h.2.2
theorem AOk.over {d : Nat} {κ : RK} (hA : AOk A (d + 5 * κ.len)) (hd : depOk A κ) : AOk (arnd A κ) d := by
 have h1 := arnd_depth A κ hd
 have h2 := arnd_units A κ hd
 have h3 := hA.depth
 have h4 := hA.units
 refine ⟨by lia, by lia, by rw [arnd_handled]; exact hA.handled⟩
theorem AOk.le {d d' : Nat} (hA : AOk A d) (h : d' ≤ d) : AOk A d' := by
 have h3 := hA.depth
 have h4 := hA.units
 exact ⟨by lia, by lia, hA.handled⟩
theorem Acc.ext {x y : Acc} (h1 : x.a = y.a) (h2 : x.c = y.c) (h3 : x.p = y.p) : x = y := by
 cases x; cases y; simp_all
theorem xfine_done {o : RO} {is : List Nat} {d : Nat} {r : Result} {L : Led} {n : Nat} {gl : List GenState} (hv : o.vw is d = ⟨1, r, default, 0, 0, L, n, gl, o.y.a, o.y.c, o.y.p⟩) (his : (decide is.Nodup && is.all (fun i => Nat.blt i d)) = true)
  (post : ∀ h t', St B h L n → R r ⟨h, ⟨gl⟩, dr, t', os⟩) : Fine B A R dr os o := by
 cases o with
 | done r' l' n' t' gl' x y =>
  injection hv with _ h1 _ _ _ h2 h3 h4 h5 h6 h7
  have h5 : x = y := Acc.ext h5 h6 h7
  subst h1 h3 h4
  obtain ⟨q1, q2⟩ := Bool.and_eq_true_iff.mp his
  refine ⟨h5, fun h S => post h t' ?_⟩
  rw [← h2]
  exact S.pickT (of_decide_eq_true q1) q2
 | _ => injection hv with h0; cases h0
theorem xfine_cut {o : RO} {is : List Nat} {d : Nat} {c : Code} {L : Led} {n m : Nat} {gl : List GenState} (hv : o.vw is d = ⟨2, .error .none, c, m, m, L, n, gl, o.y.a, o.y.c, o.y.p⟩) (his : (decide is.Nodup && is.all (fun i => Nat.blt i d)) = true)
  (next : depOk A o.kont → o.kont.rlen = m → o.kont.len = m → ∀ h t', St B h L n → codeAny (model B.V.prog B.V.w) (arnd A o.kont) c (endK B A R o.kont) ⟨h, ⟨gl⟩, dr, t', os⟩) : Fine B A R dr os o := by
 cases o with
 | cut κ' c' l' n' t' gl' x y =>
  injection hv with _ _ h1 hl hl2 h2 h3 h4 h5 h6 h7
  have h5 : x = y := Acc.ext h5 h6 h7
  subst h1 h3 h4
  refine ⟨h5, fun hd h S => ?_⟩
  obtain ⟨q1, q2⟩ := Bool.and_eq_true_iff.mp his
  exact next hd hl hl2 h t' (by rw [← h2]; exact S.pickT (of_decide_eq_true q1) q2)
 | _ => injection hv with h0; cases h0
theorem RK.base_of {κ : RK} (h : κ.len = 0) : κ = .base := by
 cases κ with
 | base => rfl
 | _ => cases h
theorem xfine_loop {o : RO} {is : List Nat} {d : Nat} {c : Code} {L : Led} {n : Nat} {gl : List GenState} (hv : o.vw is d = ⟨2, .error .none, c, 0, 0, L, n, gl, o.y.a, o.y.c, o.y.p⟩) (his : (decide is.Nodup && is.all (fun i => Nat.blt i d)) = true)
  (next : ∀ h t', St B h L n → codeAny (model B.V.prog B.V.w) A c R ⟨h, ⟨gl⟩, dr, t', os⟩) : Fine B A R dr os o := by
 refine xfine_cut hv his fun _ _ hl h t' S => ?_
 rw [RK.base_of hl]
 exact next h t' S
end
section
variable {B : Base} {A : Around} {R : Result → Shared → Prop} {dr : Drawn} {os : OsState}
theorem FineS.ats {m : Nat} {o : RO} (h : ∀ ps, FineS B A R dr os (o.ats ps m)) : FineS B A R dr os o := ⟨Fine.ats fun ps => (h ps).ok⟩
theorem fine_done {o : RO} {is : List Nat} {d : Nat} {r : Result} {L : Led} {n : Nat} {gl : List GenState} (hv : o.vw is d = ⟨1, r, default, 0, 0, L, n, gl, o.y.a, o.y.c, o.y.p⟩) (his : (decide is.Nodup && is.all (fun i => Nat.blt i d)) = true)
  (post : ∀ h t', St B h L n → R r ⟨h, ⟨gl⟩, dr, t', os⟩) : FineS B A R dr os o := ⟨xfine_done hv his post⟩
theorem fine_cut {o : RO} {is : List Nat} {d : Nat} {c : Code} {L : Led} {n m : Nat} {gl : List GenState} (hv : o.vw is d = ⟨2, .error .none, c, m, m, L, n, gl, o.y.a, o.y.c, o.y.p⟩) (his : (decide is.Nodup && is.all (fun i => Nat.blt i d)) = true)
  (next : depOk A o.kont → o.kont.rlen = m → o.kont.len = m → ∀ h t', St B h L n → codeAny (model B.V.prog B.V.w) (arnd A o.kont) c (endK B A R o.kont) ⟨h, ⟨gl⟩, dr, t', os⟩) : FineS B A R dr os o := ⟨xfine_cut hv his next⟩
theorem fine_loop {o : RO} {is : List Nat} {d : Nat} {c : Code} {L : Led} {n : Nat} {gl : List GenState} (hv : o.vw is d = ⟨2, .error .none, c, 0, 0, L, n, gl, o.y.a, o.y.c, o.y.p⟩) (his : (decide is.Nodup && is.all (fun i => Nat.blt i d)) = true)
  (next : ∀ h t', St B h L n → codeAny (model B.V.prog B.V.w) A c R ⟨h, ⟨gl⟩, dr, t', os⟩) : FineS B A R dr os o := ⟨xfine_loop hv his next⟩
end
section
variable {B : Base} {A : Around} {n : Nat} {a : Act} {qs : List (Nat × Act)}
theorem aN : ∀ q ∈ ([] : List (Nat × Act)), ActOk B A q.2 := fun _ h => nomatch h
theorem aC (h : ActOk B A a) (t : ∀ q ∈ qs, ActOk B A q.2) : ∀ q ∈ (n, a) :: qs, ActOk B A q.2 := List.forall_mem_cons.mpr ⟨h, t⟩
theorem iN : ∀ q ∈ ([] : List (Nat × Act)), ActI B A q.2 := fun _ h => nomatch h
theorem iC (h : ActI B A a) (t : ∀ q ∈ qs, ActI B A q.2) : ∀ q ∈ (n, a) :: qs, ActI B A q.2 := List.forall_mem_cons.mpr ⟨h, t⟩
theorem iK (t : ∀ q ∈ qs, ActI B A q.2) : ∀ q ∈ (n, Act.cut) :: qs, ActI B A q.2 := iC .cut t
theorem iO {idx : List Nat} {need : Led} {ce : Code} {v : Nat → Value} {d : Nat} (h : OraOk B.V.prog B.V.w need ce v d) (t : ∀ q ∈ qs, ActI B A q.2) : ∀ q ∈ (n, Act.ora idx need ce v d) :: qs, ActI B A q.2 := iC (.ora h) t
theorem iM {idx : List Nat} {need : Led} {ce : Code} {v : Nat → Nat → Result} {d : Nat} {ups : List Obj} {news : Nat → List Obj} (h : MovOk B.V idx need ce v d ups news) (t : ∀ q ∈ qs, ActI B A q.2) : ∀ q ∈ (n, Act.mov idx need ce v d ups news) :: qs, ActI B A q.2 := iC (.mov h) t
theorem iG {K : Nat} {idx : List Nat} {need : Led} {ce : Code} {v : (Nat → Nat) → Result} {ups : (Nat → Nat) → List Obj} {rest : (Nat → Nat) → List (Nat × Act)} (h : GapOk B A K idx need ce v ups) (g : ∀ φ, ∀ q ∈ rest φ, ActI B A q.2) (t : ∀ q ∈ qs, ActI B A q.2) : ∀ q ∈ (n, Act.gap K idx need ce v ups rest) :: qs, ActI B A q.2 := iC (.gap h g) t
end
theorem code_run {B : Base} {A : Around} {R : Result → Shared → Prop} {dr : Drawn} {os : OsState} (O : B.Ok) (hA : AOk A 140) {f : Nat} {ls : List Nat} {qs : List (Nat × Act)} {c : Code} {l : Led} {n t : Nat} {gl : List GenState}
  (hq : ∀ q ∈ qs, ActOk B A q.2) (H : FineS B A R dr os (run B.V f ls qs c none .base (denQ c) l n t gl Acc.nil Acc.nil)) {h : Heap} (S : St B h l n) :
  codeAny (model B.V.prog B.V.w) A c R ⟨h, ⟨gl⟩, dr, t, os⟩ := by
 obtain ⟨_, z⟩ := run_ok O hA f ls qs c none .base (denQ c) l n t gl Acc.nil Acc.nil hq trivial H.ok
 exact y_code _ _ _ _ _ _ (denQ_own (by have := hA.depth; lia) (by have := hA.units; lia) (z h S))
theorem rest_run {B : Base} {A : Around} {R : Result → Shared → Prop} {dr : Drawn} {os : OsState} (O : B.Ok) (hA : AOk A 140) {κ κ' : RK} (hκ : κ = κ') {m : Nat} (hl : κ.rlen = m + 1) (hd : depOk A κ) {r : Result} {f : Nat} {ls : List Nat} {qs : List (Nat × Act)} {l : Led} {n t : Nat} {gl : List GenState}
  (hq : ∀ q ∈ qs, ActOk B A q.2) (H : FineS B A R dr os (run B.V f ls qs κ'.code none κ'.rest (κ'.fn r) l n t gl Acc.nil Acc.nil)) {h : Heap} (S : St B h l n) :
  endK B A R κ r ⟨h, ⟨gl⟩, dr, t, os⟩ := by
 subst hκ
 obtain ⟨_, z⟩ := run_ok O hA f ls qs κ.code none κ.rest (κ.fn r) l n t gl Acc.nil Acc.nil hq (depOk_rest hd) H.ok
 exact endK_mns hl (z h S)
noncomputable def mask0 : Nat := 98073727802319191721424913320456165446176261071507030015
noncomputable def look0 (P : Params) (a : Addr) : Option Obj := match Nat.testBit mask0 a with
 | true => (zhd.ktop_390 P).get a
 | false => none
noncomputable def rowN : Nat := 10139888712337904147300001983332972444938612
noncomputable def wf (w : World) (b : Bool) : World := { w with params := { w.params with followText := fun s => match Nat.beq (PySem.W.S.codeS s) rowN with
 | true => b
 | false => w.params.followText s } }
theorem rowN_eq : PySem.code "special-get-raises" = rowN := by decide +kernel
theorem wf_self (w : World) : wf w (w.params.followText "special-get-raises") = w := by
 have : (fun s => match Nat.beq (PySem.W.S.codeS s) rowN with
  | true => w.params.followText "special-get-raises"
  | false => w.params.followText s) = w.params.followText := by
  funext s
  cases h : Nat.beq (PySem.W.S.codeS s) rowN with
  | false => rfl
  | true =>
   have := Nat.eq_of_beq_eq_true h
   rw [← PySem.W.S.code_S, ← rowN_eq] at this
   rw [code_inj _ _ this]
 unfold wf
 rw [this]
noncomputable def iterN : Nat := 2510650655181157320538776789020469319833841985448949215332
noncomputable def wf2 (w : World) (b : Bool) : World := { w with params := { w.params with followText := fun s => match Nat.beq (PySem.W.S.codeS s) iterN with
 | true => b
 | false => w.params.followText s } }
theorem iterN_eq : PySem.code "comprehension-iter-twice" = iterN := by decide +kernel
theorem wf2_self (w : World) : wf2 w (w.params.followText "comprehension-iter-twice") = w := by
 have : (fun s => match Nat.beq (PySem.W.S.codeS s) iterN with
  | true => w.params.followText "comprehension-iter-twice"
  | false => w.params.followText s) = w.params.followText := by
  funext s
  cases h : Nat.beq (PySem.W.S.codeS s) iterN with
  | false => rfl
  | true =>
   have := Nat.eq_of_beq_eq_true h
   rw [← PySem.W.S.code_S, ← iterN_eq] at this
   rw [code_inj _ _ this]
 unfold wf2
 rw [this]
noncomputable def V0 (w : World) : RV := ⟨PySem.Challenge.pw_tl0006_01, w, look0 w.params⟩
structure HS where
 h : Heap
 sc : Addr
noncomputable def B0 (w : World) (h₀ : HS) : Base := ⟨V0 w, h₀.h, [121, 158, 172, h₀.sc]⟩
noncomputable abbrev c_white : List Nat := [119, 104, 105, 116, 101]
noncomputable abbrev c_word : List Nat := [119, 111, 114, 100]
noncomputable abbrev c_numers : List Nat := [110, 117, 109, 98, 101, 114, 115]
noncomputable abbrev c_iniize : List Nat := [95, 105, 110, 105, 116, 105, 97, 108, 95, 115, 105, 122, 101]
noncomputable abbrev c_names : List Nat := [110, 97, 109, 101, 115]
noncomputable abbrev c_name : List Nat := [110, 97, 109, 101]
noncomputable abbrev c_pieces : List Nat := [112, 105, 101, 99, 101, 115]
noncomputable abbrev c_lexer : List Nat := [108, 101, 120, 101, 114]
noncomputable abbrev c_told : List Nat := [116, 111, 108, 100]
noncomputable abbrev c_kept : List Nat := [107, 101, 112, 116]
noncomputable abbrev c_turn : List Nat := [116, 117, 114, 110]
noncomputable abbrev c_script : List Nat := [115, 99, 114, 105, 112, 116]
noncomputable abbrev c_pile : List Nat := [112, 105, 108, 101]
noncomputable abbrev c_place : List Nat := [112, 108, 97, 99, 101]
noncomputable abbrev c_moved : List Nat := [109, 111, 118, 101, 100]
noncomputable abbrev c_reader : List Nat := [114, 101, 97, 100, 101, 114]
noncomputable abbrev c_depth : List Nat := [100, 101, 112, 116, 104]
noncomputable abbrev c_below : List Nat := [98, 101, 108, 111, 119]
noncomputable abbrev c_genxpr : List Nat := [60, 103, 101, 110, 101, 120, 112, 114, 62]
noncomputable abbrev c_self : List Nat := [115, 101, 108, 102]
noncomputable abbrev c_Accxpr : List Nat := [95, 65, 99, 99, 117, 109, 117, 108, 97, 116, 111, 114, 46, 95, 95, 115, 116, 114, 95, 95, 46, 60, 108, 111, 99, 97, 108, 115, 62, 46, 60, 103, 101, 110, 101, 120, 112, 114, 62]
noncomputable abbrev c_sign : List Nat := [115, 105, 103, 110]
noncomputable abbrev c_lawead : List Nat := [95, 108, 97, 119, 95, 108, 101, 120, 101, 114, 46, 60, 108, 111, 99, 97, 108, 115, 62, 46, 114, 101, 97, 100]
noncomputable abbrev c_lawbda : List Nat := [95, 108, 97, 119, 95, 112, 108, 97, 99, 101, 46, 60, 108, 111, 99, 97, 108, 115, 62, 46, 60, 108, 97, 109, 98, 100, 97, 62]
noncomputable abbrev MM (w : World) (b : Bool) : Model := model PySem.Challenge.pw_tl0006_01 (wf w b)
noncomputable abbrev cA (w : World) (b : Bool) := codeAny (MM w b)
noncomputable abbrev Bw (w : World) (b : Bool) (h₀ : HS) : Base := B0 (wf w b) h₀
noncomputable abbrev sh (h : Heap) (g : List GenState) (dr : Drawn) (t : Nat) (os : OsState) : Shared := ⟨h, ⟨g⟩, dr, t, os⟩
noncomputable abbrev bi (s : String) (l : List Value) : Code := Code.builtin s ⟨l, []⟩
noncomputable abbrev lgi (l : List Value) : Code := Code.builtin "list.__getitem__" ⟨l, []⟩
noncomputable abbrev rI (a b : Int) : Obj := { cls := .type "range_iterator", dict := none, data := .fields ⟨[.int a 0, .int b 0, .int 1 0]⟩ }
noncomputable abbrev lI (a : Addr) (b : Int) : Obj := { cls := .type "list_iterator", dict := none, data := .fields ⟨[.ref a, .int b 0]⟩ }
noncomputable abbrev S (l : List Nat) : Str := ⟨⟨l⟩⟩
noncomputable def en (w : World) (l : List Nat) (tk : Nat) (v : Value) : DictEntry := ⟨PyData.keyHash w.params (S l), .str (S l) tk, v⟩
noncomputable def dictO (ep : Nat) (es : List DictEntry) : Obj := { cls := .type "dict", data := .dict ⟨es⟩ ep }
noncomputable def frameO (ep : Nat) (es : List DictEntry) : Obj := { cls := .type "frame", data := .dict ⟨es⟩ ep }
noncomputable def listO (vs : List Value) (ep : Nat) : Obj := { cls := .type "list", data := .seq ⟨vs⟩ ep }
noncomputable def tupO (vs : List Value) : Obj := { cls := .type "tuple", data := .seq ⟨vs⟩ 0 }
noncomputable def tabO (vs : List Value) : Obj := { cls := .none, data := .fields ⟨vs⟩ }
noncomputable def cellO (v : Value) : Obj := { cls := .type "cell", data := .cell (some v) }
noncomputable def instO (c d : Addr) : Obj := { cls := .ref c, dict := some d, data := .plain }
noncomputable def fnBody (P : Params) (a : Addr) : List Stmt := match look0 P a with
 | some o => match o.data with
  | .func fd => match fd.body with
   | .stmts b => b
   | .expr _ => []
  | _ => []
 | none => []
noncomputable def fdOfStmt (s : Option Stmt) (qual : Str) (mk : Str → Arguments → List Stmt → Scope → FuncData) : FuncData := match s with
 | some (.FunctionDef name args body _ _ _ scope _ _ _) => mk name args body scope
 | _ => mk qual default [] default
noncomputable def readFD (P : Params) (tx ac cd ct mk : Nat) : FuncData :=
 fdOfStmt ((fnBody P 163)[1]?) (S []) fun name args body scope =>
  { name := name, qualname := S c_lawead, params := args, body := .stmts body, scope := scope, globals := 3, closure := [(S [116, 101, 120, 116], tx), (S [97, 116], ac)], defaults := .none, kwdefaults := .none, doc := .none, pyModule := .str (S [108, 97, 119, 95, 116, 108, 48, 48, 48, 54, 95, 48, 49]) mk, annotations := none, code := .ref cd, closureTuple := .ref ct, builtins := 0 }
noncomputable def readO (P : Params) (tx ac cd ct mk : Nat) : Obj := { cls := .type "function", data := .func (readFD P tx ac cd ct mk) }
noncomputable def lamO (sd : Nat) (dt : FuncData) : Obj := { cls := .type "function", dict := some sd, data := .func dt }
noncomputable def codeO (v0 : Value) (q : Str) (tq : Nat) (rest : List Value) : Obj := { cls := .type "code", data := .fields ⟨v0 :: .str q tq :: rest⟩ }
structure LX where
 (lx dx st sd rf cd tc ac al pb ct k1 k2 k3 k4 kw kr km tk tq : Nat)
 (dt : FuncData)
 (v0 : Value)
 (q : Str)
 (rest : List Value)
 (text : Str)
noncomputable def lexD (w : World) (X : LX) (ln tl : Nat) : Obj := dictO 4 [en w [108, 105, 110, 101, 110, 111] X.k1 (.int (Int.ofNat ln) tl), en w [105, 110, 115, 116, 114, 101, 97, 109] X.k2 (.ref (X.st + 186)), en w [119, 104, 105, 116, 101, 115, 112, 97, 99, 101] X.k3 (.str (S [10, 9, 13, 32]) X.kw), en w [112, 117, 115, 104, 98, 97, 99, 107] X.k4 (.ref (X.pb + 186))]
noncomputable def lexLed (w : World) (X : LX) (ln tl p tp : Nat) (pbs : List Value) (ep : Nat) : Led :=
 [(X.lx + 186, instO 59 (X.dx + 186)), (X.dx + 186, lexD w X ln tl), (X.al + 186, listO [.int (Int.ofNat p) tp] 0), (X.pb + 186, listO pbs ep),
 (X.st + 186, lamO (X.sd + 186) X.dt), (X.sd + 186, dictO 1 [en w [114, 101, 97, 100] X.kr (.ref (X.rf + 186))]),
 (X.rf + 186, readO w.params (X.tc + 186) (X.ac + 186) (X.cd + 186) (X.ct + 186) X.km), (X.cd + 186, codeO X.v0 X.q X.tq X.rest),
 (X.tc + 186, cellO (.str X.text X.tk)), (X.ac + 186, cellO (.ref (X.al + 186)))]
noncomputable def fdAt (P : Params) (a : Addr) : FuncData := match look0 P a with
 | some o => match o.data with
  | .func fd => fd
  | _ => default
 | none => default
noncomputable def envAt (P : Params) (a fr : Addr) (qual : List Nat) : Env :=
 { scope := (fdAt P a).scope, locals := fr, globals := (fdAt P a).globals, cells := (fdAt P a).closure, qual := S qual, func := some a, code := (fdAt P a).code, frame := some fr, builtins := (fdAt P a).builtins }
noncomputable def forOf (s : Option Stmt) (it : Addr) (env : Env) : Code := match s with
 | some (.For t _ b o _) => .forLoop t (.ref it) b o env
 | _ => default
noncomputable def thenOf : Option Stmt → List Stmt
 | some (.If _ b _ _) => b
 | _ => []
noncomputable def elseOf : Option Stmt → List Stmt
 | some (.If _ _ b _) => b
 | _ => []
noncomputable def bodyOfFor : Option Stmt → List Stmt
 | some (.For _ _ b _ _) => b
 | some (.While _ b _ _) => b
 | _ => []
noncomputable def gtQual : List Nat := [95, 110, 101, 116, 114, 99, 108, 101, 120, 46, 103, 101, 116, 95, 116, 111, 107, 101, 110, 46, 60, 108, 111, 99, 97, 108, 115, 62, 46]
noncomputable def gtFor (P : Params) : Option Stmt := (fnBody P 49)[3]?
noncomputable def gtIf2 (P : Params) : Option Stmt := (bodyOfFor (gtFor P))[1]?
noncomputable def gtQ (P : Params) : Option Stmt := (thenOf (gtIf2 P))[0]?
noncomputable def gtU (P : Params) : Option Stmt := (elseOf (gtIf2 P))[2]?
noncomputable def loopO (P : Params) (it fr : Nat) : Code := forOf (gtFor P) (it + 186) (envAt P 49 (fr + 186) gtQual)
noncomputable def loopQ (P : Params) (it fr : Nat) : Code := forOf (gtQ P) (it + 186) (envAt P 49 (fr + 186) gtQual)
noncomputable def loopU (P : Params) (it fr : Nat) : Code := forOf (gtU P) (it + 186) (envAt P 49 (fr + 186) gtQual)
noncomputable def itO (m : Nat) (ts : Nat) : Obj := { cls := .type "callable_iterator", data := .fields ⟨[.ref (m + 186), .str (S []) ts, .bool false]⟩ }
noncomputable def mthO (lx : Nat) : Obj := { cls := .type "method", data := .fields ⟨[.ref 42, .ref (lx + 186)]⟩ }
structure FR where
 (fr it mt k1 k3 ts : Nat)
noncomputable def frA (w : World) (F : FR) (lx k2 tt : Nat) (tok : Str) : Obj := frameO 3 [en w c_self F.k1 (.ref (lx + 186)), en w [116, 111, 107, 101, 110] k2 (.str tok tt), en w [102, 105, 116, 101, 114] F.k3 (.ref (F.it + 186))]
noncomputable def frB (w : World) (F : FR) (lx : Nat) (k2 tt k4 tc : Nat) (tok ch : Str) : Obj := frameO 4 [en w c_self F.k1 (.ref (lx + 186)), en w [116, 111, 107, 101, 110] k2 (.str tok tt), en w [102, 105, 116, 101, 114] F.k3 (.ref (F.it + 186)), en w [99, 104] k4 (.str ch tc)]
section
variable {prog : Program} {w : World}
theorem ora_gives {id : String} {args : Args} {bi : Builtin} {m : Made} {v : Nat → Value} {d : Nat} {need : Led} (hp : plainId id = true) (hb : entryFor table id = some bi)
  (g : ∀ h : Heap, (∀ p ∈ need, h.get? p.1 = some p.2) → Gives (bi args) m) (hm : ∀ (Q : Value → Shared → Prop) s, Q (v s.toks) { s with toks := s.toks + d } → m.post Q s) :
  OraOk prog w need (.builtin id args) v d := by
 intro A h gl dr t os R hn hA hR
 refine codeAny_of_tree ?_
 rw [Around.under_plainId hp]
 show wpAny _ _ (match entryFor table id with | some b => b args | none => unsupported ((withoutEnding? id "#data").getD id)) _ _ _
 rw [hb]
 exact g h hn prog w A R ⟨h, gl, dr, t, os⟩ (hm _ _ hR)
theorem ora_val {id : String} {args : Args} {bi : Builtin} {v : Value} (hp : plainId id = true) (hb : entryFor table id = some bi)
  (g : Gives (bi args) (.val v)) : OraOk prog w [] (.builtin id args) (fun _ => v) 0 := ora_gives hp hb (fun _ _ => g) fun _ _ h => h
theorem ora_int {id : String} {args : Args} {bi : Builtin} {i : Int} (hp : plainId id = true) (hb : entryFor table id = some bi)
  (g : Gives (bi args) (.int i)) : OraOk prog w [] (.builtin id args) (fun t => .int i t) 1 := ora_gives hp hb (fun _ _ => g) fun _ _ h => h
theorem ora_str {id : String} {args : Args} {bi : Builtin} {x : Str} (hp : plainId id = true) (hb : entryFor table id = some bi)
  (g : Gives (bi args) (.str x)) (hx : x.length ≤ sizeLine) : OraOk prog w [] (.builtin id args) (fun t => .str x t) 1 := ora_gives hp hb (fun _ _ => g) fun _ _ h => ⟨hx, h⟩
theorem ora_str_eq (x y : Str) (t u : Tok) (r : Bool) (h : (x.cps.toList == y.cps.toList) = r) : OraOk prog w [] (bi "str.__eq__" [.str x t, .str y u]) (fun _ => .bool r) 0 := by
 subst h
 exact ora_val (by decide +kernel) F.entry_str_eq (gives_str_eq x y t u)
theorem ora_str_contains (x y : Str) (t u : Tok) (r : Bool) (h : (!(Builtin.Str.occurrences x y 0 x.length 1).isEmpty) = r) : OraOk prog w [] (bi "str.__contains__" [.str x t, .str y u]) (fun _ => .bool r) 0 := by
 subst h
 exact ora_val (by decide +kernel) F.entry_str_contains (gives_str_contains x y t u)
theorem ora_str_add (x y : Str) (t u : Tok) (hx : (x ++ y).length ≤ sizeLine) (hy : y.length ≠ 0) :
  OraOk prog w [] (bi "str.__add__" [.str x t, .str y u]) (fun t => .str (x ++ y) (if x.length == 0 then u else t)) (if x.length == 0 then 0 else 1) := by
 have g := gives_str_add x y t u
 refine ora_gives (by decide +kernel) F.entry_str_add (fun _ _ => g) fun Q s h => ?_
 have hy' : (y.length == 0) = false := by simpa using hy
 cases hx0 : x.length == 0 with
 | true =>
  rw [hx0] at h
  have e : x ++ y = y := by
   have : x.length = 0 := by simpa using hx0
   have hx : x = ⟨#[]⟩ := by
    obtain ⟨c⟩ := x
    congr 1
    exact Array.eq_empty_of_size_eq_zero this
   subst hx
   exact Str.empty_append y
  rw [e] at h
  exact h
 | false =>
  rw [hx0] at h
  rw [hy']
  exact ⟨hx, h⟩
theorem ora_meets {id : String} {args : Args} {bi : Builtin} {v : Nat → Value} {d : Nat} {need : Led} {Sp : PySem.Spec} (hp : plainId id = true) (hb : entryFor table id = some bi) (m : Meets (bi args) Sp)
  (hs : ∀ A R (s : Shared), (∀ p ∈ need, s.heap.get? p.1 = some p.2) → R (.ok (.ret (v s.toks))) { s with toks := s.toks + d } → Sp A R s) : OraOk prog w need (.builtin id args) v d := by
 intro A h gl dr t os R hn hA hR
 refine codeAny_of_tree ?_
 rw [Around.under_plainId hp]
 show wpAny _ _ (match entryFor table id with | some b => b args | none => unsupported ((withoutEnding? id "#data").getD id)) _ _ _
 rw [hb]
 exact m prog w A R ⟨h, gl, dr, t, os⟩ (hs _ _ ⟨h, gl, dr, t, os⟩ hn hR)
theorem ora_slice {text : Str} {tk a p t1 t2 c : Nat} {rest : List Nat} (hd : text.cps.toList.drop p = c :: rest) (hl : 2 ≤ text.length) :
  OraOk prog w [(a, { cls := .type "slice", dict := none, data := .fields ⟨[.int (Int.ofNat p) t1, .int (Int.ofNat (p + 1)) t2, .none]⟩ })]
   (bi "str.__getitem__" [.str text tk, .ref a]) (fun t => .str (S [c]) t) 1 := by
 refine ora_meets (by decide +kernel) F.entry_str_getitem (meets_str_getitem_slice text tk a (some (p, t1)) (some (p + 1, t2)) none rfl) fun A R s hn hR => ⟨⟨_, hn _ (.head _), rfl, rfl⟩, ?_⟩
 have hp : p < text.length := by
  have := congrArg List.length hd
  simp [List.length_drop] at this
  simp [Str.length]
  lia
 have e : slicePicked text (some ((p : Int), t1)) (some ((p : Int) + 1, t2)) none = [p] := by
  have := StrLaws.strSliceIndices_plain (a := p) (b := p + 1) (len := text.length) (by lia) (by lia)
  simp only [slicePicked, Option.map, Option.getD]
  rw [show ((p : Int) + 1) = ((p + 1 : Nat) : Int) by lia, this]
  simp
 have e2 : text.cps[p]? = some c := by
  have h0 : (text.cps.toList.drop p)[0]? = some c := by rw [hd]; rfl
  rw [List.getElem?_drop] at h0
  simpa using h0
 unfold sliceMade
 rw [e]
 have hw : ((Option.map (·.1) (none : Option (Int × Tok))).getD 1 == 1 && [p].length == text.length) = false := by
  simp only [Option.map, Option.getD, List.length_cons, List.length_nil]
  have : ¬ (0 + 1 = text.length) := by lia
  simp [this]
 rw [hw]
 simp only [Bool.false_eq_true, if_false]
 have e3 : [p].filterMap (text.cps[·]?) = [c] := by simp [e2]
 rw [e3]
 exact ⟨by show (1 : Nat) ≤ sizeLine; decide +kernel, hR⟩
theorem ora_slice_end {text : Str} {tk a p t1 t2 : Nat} (hd : p = text.length) (hl : 2 ≤ text.length) :
  OraOk prog w [(a, { cls := .type "slice", dict := none, data := .fields ⟨[.int (Int.ofNat p) t1, .int (Int.ofNat (p + 1)) t2, .none]⟩ })]
   (bi "str.__getitem__" [.str text tk, .ref a]) (fun t => .str (S []) t) 1 := by
 refine ora_meets (by decide +kernel) F.entry_str_getitem (meets_str_getitem_slice text tk a (some (p, t1)) (some (p + 1, t2)) none rfl) fun A R s hn hR => ⟨⟨_, hn _ (.head _), rfl, rfl⟩, ?_⟩
 have e : slicePicked text (some ((p : Int), t1)) (some ((p : Int) + 1, t2)) none = [] := by
  simp only [slicePicked, Option.map, Option.getD, Builtin.Str.strSliceIndices, sliceRange]
  subst hd
  have h1 : ¬ ((text.length : Int) < 0) := by lia
  have h2 : ¬ ((text.length : Int) + 1 < 0) := by lia
  have e1 : max (0 : Int) (min (text.length : Int) (text.length : Int)) = text.length := by lia
  have e2 : max (0 : Int) (min ((text.length : Int) + 1) (text.length : Int)) = text.length := by lia
  simp only [h1, h2, if_false, e1, e2, show ((1 : Int) > 0) = True from by simp, if_true]
  simp
 unfold sliceMade
 rw [e]
 have hw : ((Option.map (·.1) (none : Option (Int × Tok))).getD 1 == 1 && ([] : List Nat).length == text.length) = false := by
  simp only [Option.map, Option.getD, List.length_nil]
  have : ¬ (0 = text.length) := by lia
  simp [this]
 rw [hw]
 simp only [Bool.false_eq_true, if_false]
 exact ⟨by show (0 : Nat) ≤ sizeLine; decide +kernel, hR⟩
end
noncomputable def itE : Obj := { cls := .type "callable_iterator", data := .fields ⟨[.none, .none, .bool true]⟩ }
noncomputable abbrev bnw {α β : Type} (m : Sem α) (f : α → Sem β) : Sem β := @bind Sem (@Monad.toBind Sem PySem.W.Fast.tw12456147031677567982) α β m f
noncomputable abbrev isTrue (v : Value) : Bool := @BEq.beq Value (@instBEqOfDecidableEq Value PySem.W.Fast.tw7966671052430208091) v (Value.bool true)
noncomputable def ciStop (self : Value) : Sem PySem.Fin := bnw (PySem.W.Fast.tw7774638238746244234 self) fun _ => PySem.W.Fast.tw17615448654315672387
noncomputable def ciTail (self r : Value) : Sem PySem.Fin :=
 bnw (PySem.W.Fast.tw6609576154772507232 self 1) fun s => bnw (PySem.W.Fast.tw17359229931016689406 [r] (PySem.W.Fast.tw13926502685295537346 s r)) fun v =>
  if (!v) = true then PySem.W.Fast.tw6905046200447255374 r
  else bnw (rule PySem.W.SL.s986709197705307712x35) fun _ => ciStop self
noncomputable def ciAfter (self r : Value) : Sem PySem.Fin := bnw (PySem.W.Fast.tw6609576154772507232 self 2) fun z =>
      if isTrue z = true then bnw (rule "callable_iterator.__next__.ended-meanwhile") fun _ => bnw (@PySem.W.Fast.tw17615448654315672387 Unit) fun _ => ciTail self r
   else ciTail self r
theorem wpOwn_bnw {M : Model} {A : Around} {c : Code} {α : Type} {m : Sem α} {f : α → Sem PySem.Fin} {Q : PySem.Fin → Shared → Prop} {E : Value → Shared → Prop} {s : Shared}
  (x : wpOwn M A c m (fun a s' => wpOwn M A c (f a) Q E s') E s) : wpOwn M A c (bnw m f) Q E s := by
 unfold bnw
 rw [← PySem.W.Fast.te12456147031677567982]
 exact wpOwn_bind (m := m) (f := f) x
theorem isTrue_no : isTrue (.bool false) = false := by
 unfold isTrue
 rw [← PySem.W.Fast.te7966671052430208091]
 decide
theorem ci_after {prog : Program} {w : World} {A : Around} {c : Code} {Q : PySem.Fin → Shared → Prop} {E : Value → Shared → Prop} {s : Shared} {it m t u : Nat} (hi : s.heap.get? (it + 186) = some (itO m u))
  (x : wpOwn (model prog w) A c (ciStop (.ref (it + 186))) Q E s) : wpOwn (model prog w) A c (ciAfter (.ref (it + 186)) (.str (S []) t)) Q E s := by
 unfold ciAfter
 refine wpOwn_bnw ?_
 rw [← PySem.W.Fast.te6609576154772507232]
 refine wpOwn_of_wpAny (wpAny_field hi rfl rfl ?_)
 show wpOwn _ _ _ (if isTrue (Value.bool false) = true then _ else _) _ _ _
 rw [isTrue_no, if_neg (by decide)]
 unfold ciTail
 refine wpOwn_bnw ?_
 rw [← PySem.W.Fast.te6609576154772507232]
 refine wpOwn_of_wpAny (wpAny_field hi rfl rfl ?_)
 show wpOwn _ _ _ (bnw _ _) _ _ _
 refine wpOwn_bnw ?_
 rw [← PySem.W.Fast.te17359229931016689406, ← PySem.W.Fast.te13926502685295537346]
 refine wpOwn_of_wpAny (wpAny_holding (wpAny_eqBool_str ?_))
 rw [if_neg (by simp)]
 refine wpOwn_bnw ?_
 exact wpOwn_of_wpAny (wpAny_rule x)
theorem ci_rest {B : Base} {A : Around} {R : Result → Shared → Prop} {κ : RK} {k it m t u : Nat} {s : Shared} (hl : κ.rlen = k + 1) (hκ : κ.fn (.ok (.ret (.str (S []) t))) = ciAfter (.ref (it + 186)) (.str (S []) t))
  (hi : s.heap.get? (it + 186) = some (itO m u)) (x : Mns B A R κ.rest κ.code (ciStop (.ref (it + 186))) s) : endK B A R κ (.ok (.ret (.str (S []) t))) s := by
 refine endK_mns hl ?_
 rw [hκ]
 exact ci_after hi x
theorem tree_run {B : Base} {A : Around} {R : Result → Shared → Prop} {dr : Drawn} {os : OsState} (O : B.Ok) (hA : AOk A 140) {κ κ' : RK} (hκ : κ = κ') (hd : depOk A κ) {tr : Sem PySem.Fin} {f : Nat} {ls : List Nat} {qs : List (Nat × Act)} {l : Led} {n t : Nat} {gl : List GenState}
  (hq : ∀ q ∈ qs, ActOk B A q.2) (H : FineS B A R dr os (run B.V f ls qs κ'.code none κ'.rest tr l n t gl Acc.nil Acc.nil)) {h : Heap} (S : St B h l n) :
  Mns B A R κ.rest κ.code tr (sh h gl dr t os) := by
 subst hκ
 exact (run_ok O hA f ls qs κ.code none κ.rest tr l n t gl Acc.nil Acc.nil hq (depOk_rest hd) H.ok).2 h S
theorem rk_id (κ : RK) : @RK.rec (fun _ => RK) .base (fun c k κ _ => .ret c k κ) (fun g c k κ _ => .gen g c k κ) κ = κ := by cases κ <;> rfl
theorem rk_eq {κ κ2 : RK} (h : @RK.rec (fun _ => RK) .base (fun c k κ _ => .ret c k κ) (fun g c k κ _ => .gen g c k κ) κ = @RK.rec (fun _ => RK) .base (fun c k κ _ => .ret c k κ) (fun g c k κ _ => .gen g c k κ) κ2) : κ = κ2 := (rk_id κ).symm.trans (h.trans (rk_id κ2))
noncomputable def forT (s : Option Stmt) (i : Nat) (it : Value) (env : Env) : Sem PySem.Fin := match s with
 | some (.For t _ b o _) => PySem.W.R.onRaiseR (bnd (Fast.tw12563942051412417395 (b.drop i) env) fun f => match f with
  | .next => .pure (.again (.forLoop t it b o env))
  | .cont => .pure (.again (.forLoop t it b o env))
  | .brk => .pure (.done .next)
  | .ret v => .pure (.done (.ret v))) (tailR env)
 | _ => default
noncomputable def kOf (w : World) (b : Bool) (it fr c f : Nat) (ls : List Nat) (j : Nat) : RK := (run (V0 (wf w b)) f ls [(j, .cut)] (loopO (wf w b).params it fr) none .base (forT (gtFor (wf w b).params) 1 (.ref (it + 186)) (envAt (wf w b).params 49 (fr + 186) gtQual)) [(fr + 186, frameO 4 [en (wf w b) [116, 111, 107, 101, 110] 0 (.str (S []) 0), en (wf w b) [102, 105, 116, 101, 114] 0 (.ref (it + 186)), en (wf w b) [99, 104] 0 (.str (S [c]) 0)]), (it + 186, itO 0 0)] 0 0 [] Acc.nil Acc.nil).kont
noncomputable def kgQ (w : World) (b : Bool) (it fr : Nat) : RK := kOf w b it fr 34 26 [1, 1, 2, 2, 2, 2] 4
noncomputable def kgU (w : World) (b : Bool) (it fr : Nat) : RK := kOf w b it fr 35 52 [1, 1, 1, 1, 1, 1, 1, 2, 2, 2, 2] 8
section
variable {h₀ : HS} {w : World} {b : Bool} (O : (Bw w b h₀).Ok) {A₀ : Around} (hA : AOk A₀ 140) {R : Result → Shared → Prop} {dr : Drawn} {os : OsState} {h : Heap}
include O hA
theorem lOAw_t {X : LX} {ln tl p tp ep n t : Nat} {r : Led} {gl : List GenState} {F : FR} {k2 tt : Nat} {c : Nat} {rs : List Nat} (hd : X.text.cps.toList.drop p = (c + 1) :: rs) (hl : 2 ≤ X.text.length) (h10 : c + 1 ≠ 10)(hws : (!(Builtin.Str.occurrences (S [10, 9, 13, 32]) (S [c + 1]) 0 (S [10, 9, 13, 32]).length 1).isEmpty) = true) (S₀ : St (Bw w b h₀) h ((F.fr + 186, frA (wf w b) F X.lx k2 tt (S [])) :: (F.it + 186, itO F.mt F.ts) :: (F.mt + 186, mthO X.lx) :: (lexLed (wf w b) X (ln) (tl) (p) (tp) [] (ep) ++ r)) (n + 186))
  (next : ∀ h' t', St (Bw w b h₀) h' ((F.fr + 186, frB (wf w b) F X.lx k2 tt (t + 17) (t + 8) (S []) (S [c + 1])) :: (F.it + 186, itO F.mt F.ts) :: (F.mt + 186, mthO X.lx) :: (lexLed (wf w b) X ln tl (p + 1) (t + 13) [] ep ++ r)) ((n + 189)) → cA w b A₀ (loopO (wf w b).params F.it F.fr) R (sh h' gl dr t' os)) :
  cA w b A₀ (loopO (wf w b).params F.it F.fr) R (sh h gl dr t os) := by
 exact code_run (f := 234) (ls := (dg 96 1864465222973124374698902930046612708266172790135211068024990514289571700975309165726633754671888735637862797503534791640444076141434498078238187912467756845009431390669394386511427543821603)) (qs := [(17, .ora [0] [((n + 188), { cls := .type "slice", dict := none, data := .fields ⟨[.int (Int.ofNat p) tp, .int (Int.ofNat (p + 1)) (t + 7), .none]⟩ })] (bi "str.__getitem__" [.str (X.text) X.19, .ref (n + 188)]) (fun t => Value.str (S [c + 1]) t) 1), (11, .ora [] [] (bi "str.__eq__" [.str (S [c + 1]) (t + 8), .str (S [10]) (t + 16)]) (fun t => Value.bool false) 0), (4, .ora [] [] (bi "str.__contains__" [.str (S [10, 9, 13, 32]) X.16, .str (S [c + 1]) (t + 8)]) (fun t => Value.bool true) 0), (0, .cut)]) O hA  (aC (ora_slice hd hl) <| aC (ora_str_eq _ _ _ _ _ (by simp [S]; lia)) <| aC (ora_str_contains _ _ _ _ _ hws) <| aC trivial <| aN) (fine_loop (is := [3, 4, 5, 6, 7, 8, 9, 10, 11, 12, 13, 14, 15]) (d := 16) (Vw.Is.eq (by refine Bool.rec ?_ ?_ b <;> and_intros <;> kernel_rfl)) rfl next) S₀
theorem lOAn_t {X : LX} {ln tl p tp ep n t : Nat} {r : Led} {gl : List GenState} {F : FR} {k2 tt : Nat} {rs : List Nat} (hd : X.text.cps.toList.drop p = (10) :: rs) (hl : 2 ≤ X.text.length)  (S₀ : St (Bw w b h₀) h ((F.fr + 186, frA (wf w b) F X.lx k2 tt (S [])) :: (F.it + 186, itO F.mt F.ts) :: (F.mt + 186, mthO X.lx) :: (lexLed (wf w b) X (ln) (tl) (p) (tp) [] (ep) ++ r)) (n + 186))
  (next : ∀ h' t', St (Bw w b h₀) h' ((F.fr + 186, frB (wf w b) F X.lx k2 tt (t + 22) (t + 8) (S []) (S [10])) :: (F.it + 186, itO F.mt F.ts) :: (F.mt + 186, mthO X.lx) :: (lexLed (wf w b) X (ln + 1) (t + 19) (p + 1) (t + 13) [] ep ++ r)) ((n + 189)) → cA w b A₀ (loopO (wf w b).params F.it F.fr) R (sh h' gl dr t' os)) :
  cA w b A₀ (loopO (wf w b).params F.it F.fr) R (sh h gl dr t os) := by
 exact code_run (f := 286) (ls := (dg 126 547887356308494703147832780192730089708702746603970939392046146972675365778149372260747764321929076061669628098953623085210399639443393645580319172581656809178261147201119080898301051112608736587712202537062703147446374006737715166984991136092319011)) (qs := [(17, .ora [0] [((n + 188), { cls := .type "slice", dict := none, data := .fields ⟨[.int (Int.ofNat p) tp, .int (Int.ofNat (p + 1)) (t + 7), .none]⟩ })] (bi "str.__getitem__" [.str (X.text) X.19, .ref (n + 188)]) (fun t => Value.str (S [10]) t) 1), (22, .cut)]) O hA  (aC (ora_slice hd hl) <| aC trivial <| aN) (fine_loop (is := [3, 4, 5, 6, 7, 8, 9, 10, 11, 12, 13, 14, 15]) (d := 16) (Vw.Is.eq (by refine Bool.rec ?_ ?_ b <;> and_intros <;> kernel_rfl)) rfl next) S₀
theorem lOAq_t {X : LX} {ln tl p tp ep n t : Nat} {r : Led} {gl : List GenState} {F : FR} {k2 tt : Nat} {rs : List Nat} (hd : X.text.cps.toList.drop p = (34) :: rs) (hl : 2 ≤ X.text.length)  (S₀ : St (Bw w b h₀) h ((F.fr + 186, frA (wf w b) F X.lx k2 tt (S [])) :: (F.it + 186, itO F.mt F.ts) :: (F.mt + 186, mthO X.lx) :: (lexLed (wf w b) X (ln) (tl) (p) (tp) [] (ep) ++ r)) (n + 186))
  (next : ∀ κ, κ = kgQ w b F.it F.fr → depOk A₀ κ → κ.rlen = 1 → κ.len = 1 → ∀ h' t', St (Bw w b h₀) h' ((F.fr + 186, frB (wf w b) F X.lx k2 tt (t + 17) (t + 8) (S []) (S [34])) :: (F.it + 186, itO F.mt F.ts) :: (F.mt + 186, mthO X.lx) :: (lexLed (wf w b) X ln tl (p + 1) (t + 13) [] ep ++ r)) ((n + 189)) → cA w b (arnd A₀ κ) (loopQ (wf w b).params F.it F.fr) (endK (Bw w b h₀) A₀ R κ) (sh h' gl dr t' os)) :
  cA w b A₀ (loopO (wf w b).params F.it F.fr) R (sh h gl dr t os) := by
 exact code_run (f := 256) (ls := (dg 102 981959134144401646896496186653179829386781388035048733831382259786846583600923127024536406832990522867786178344995800253305456714580711079562803404200888199967158844813800242464891471266405289560698147)) (qs := [(17, .ora [0] [((n + 188), { cls := .type "slice", dict := none, data := .fields ⟨[.int (Int.ofNat p) tp, .int (Int.ofNat (p + 1)) (t + 7), .none]⟩ })] (bi "str.__getitem__" [.str (X.text) X.19, .ref (n + 188)]) (fun t => Value.str (S [34]) t) 1), (21, .cut)]) O hA  (aC (ora_slice hd hl) <| aC trivial <| aN) (fine_cut (is := [3, 4, 5, 6, 7, 8, 9, 10, 11, 12, 13, 14, 15]) (d := 16) (Vw.Is.eq (by refine Bool.rec ?_ ?_ b <;> and_intros <;> kernel_rfl)) rfl (next _ (rk_eq (by refine Bool.rec ?_ ?_ b <;> kernel_rfl)))) S₀
theorem lOAe_t {X : LX} {ln tl p tp ep n t : Nat} {r : Led} {gl : List GenState} {F : FR} {k2 tt : Nat} {c : Nat} {rs : List Nat} (hd : X.text.cps.toList.drop p = (92) :: rs) (hl : 2 ≤ X.text.length) {rs2 : List Nat} (hd2 : X.text.cps.toList.drop (p + 1) = (c + 1) :: rs2) (h10 : c + 1 ≠ 10) (S₀ : St (Bw w b h₀) h ((F.fr + 186, frA (wf w b) F X.lx k2 tt (S [])) :: (F.it + 186, itO F.mt F.ts) :: (F.mt + 186, mthO X.lx) :: (lexLed (wf w b) X (ln) (tl) (p) (tp) [] (ep) ++ r)) (n + 186))
  (next : ∀ κ, κ = kgU w b F.it F.fr → depOk A₀ κ → κ.rlen = 1 → κ.len = 1 → ∀ h' t', St (Bw w b h₀) h' ((F.fr + 186, frB (wf w b) F X.lx k2 (t + 29) (t + 17) (t + 29) (S [c + 1]) (S [c + 1])) :: (F.it + 186, itO F.mt F.ts) :: (F.mt + 186, mthO X.lx) :: (lexLed (wf w b) X ln tl (p + 2) (t + 34) [] ep ++ r)) ((n + 192)) → cA w b (arnd A₀ κ) (loopU (wf w b).params F.it F.fr) (endK (Bw w b h₀) A₀ R κ) (sh h' gl dr t' os)) :
  cA w b A₀ (loopO (wf w b).params F.it F.fr) R (sh h gl dr t os) := by
 exact code_run (f := 488) (ls := (dg 196 3174538360252769373746819260595154746930899570553133265396718406334540681535841173248005939288390493269317883299536450643866428384644880748812861434105902091083159104534333544995068705860202523775415460793662855108979647310959241637441033163803263714643510211282634114868796842078587379695163309151038085817940799783374848414108047605710610358049195459530305402764615344350366721055976739)) (qs := [(17, .ora [0] [((n + 188), { cls := .type "slice", dict := none, data := .fields ⟨[.int (Int.ofNat p) tp, .int (Int.ofNat (p + 1)) (t + 7), .none]⟩ })] (bi "str.__getitem__" [.str (X.text) X.19, .ref (n + 188)]) (fun t => Value.str (S [92]) t) 1), (35, .ora [0] [((n + 191), { cls := .type "slice", dict := none, data := .fields ⟨[.int (Int.ofNat (p + 1)) (t + 13), .int (Int.ofNat (p + 2)) (t + 28), .none]⟩ })] (bi "str.__getitem__" [.str (X.text) X.19, .ref (n + 191)]) (fun t => Value.str (S [c + 1]) t) 1), (11, .ora [] [] (bi "str.__eq__" [.str (S [c + 1]) (t + 29), .str (S [10]) (t + 37)]) (fun t => Value.bool false) 0), (4, .cut)]) O hA  (aC (ora_slice hd hl) <| aC (ora_slice hd2 hl) <| aC (ora_str_eq _ _ _ _ _ (by simp [S]; lia)) <| aC trivial <| aN) (fine_cut (is := [6, 7, 8, 9, 10, 11, 12, 13, 14, 15, 16, 17, 18]) (d := 19) (Vw.Is.eq (by refine Bool.rec ?_ ?_ b <;> and_intros <;> kernel_rfl)) rfl (next _ (rk_eq (by refine Bool.rec ?_ ?_ b <;> kernel_rfl)))) S₀
theorem lOAm_t {X : LX} {ln tl p tp ep n t : Nat} {r : Led} {gl : List GenState} {F : FR} {k2 tt : Nat} {rs : List Nat} (hd : X.text.cps.toList.drop p = (92) :: rs) (hl : 2 ≤ X.text.length) {rs2 : List Nat} (hd2 : X.text.cps.toList.drop (p + 1) = (10) :: rs2)  (S₀ : St (Bw w b h₀) h ((F.fr + 186, frA (wf w b) F X.lx k2 tt (S [])) :: (F.it + 186, itO F.mt F.ts) :: (F.mt + 186, mthO X.lx) :: (lexLed (wf w b) X (ln) (tl) (p) (tp) [] (ep) ++ r)) (n + 186))
  (next : ∀ κ, κ = kgU w b F.it F.fr → depOk A₀ κ → κ.rlen = 1 → κ.len = 1 → ∀ h' t', St (Bw w b h₀) h' ((F.fr + 186, frB (wf w b) F X.lx k2 (t + 29) (t + 17) (t + 29) (S [10]) (S [10])) :: (F.it + 186, itO F.mt F.ts) :: (F.mt + 186, mthO X.lx) :: (lexLed (wf w b) X (ln + 1) (t + 40) (p + 2) (t + 34) [] ep ++ r)) ((n + 192)) → cA w b (arnd A₀ κ) (loopU (wf w b).params F.it F.fr) (endK (Bw w b h₀) A₀ R κ) (sh h' gl dr t' os)) :
  cA w b A₀ (loopO (wf w b).params F.it F.fr) R (sh h gl dr t os) := by
 exact code_run (f := 539) (ls := (dg 226 932862360889348072439894457981870346715884411064723560420578599754063155663179370570889333518098738722540265693201467802446031632683096521739776581419334269829533649745465599719221825747565232301850073096275149494802980251129275167694643775101119682363785788983731853517729503816865025882512878500567562025612303699631806509653254180997019337026902242330438441250202940808813628917213745506671922195257261087878417551799541913677614596571179576611)) (qs := [(17, .ora [0] [((n + 188), { cls := .type "slice", dict := none, data := .fields ⟨[.int (Int.ofNat p) tp, .int (Int.ofNat (p + 1)) (t + 7), .none]⟩ })] (bi "str.__getitem__" [.str (X.text) X.19, .ref (n + 188)]) (fun t => Value.str (S [92]) t) 1), (35, .ora [0] [((n + 191), { cls := .type "slice", dict := none, data := .fields ⟨[.int (Int.ofNat (p + 1)) (t + 13), .int (Int.ofNat (p + 2)) (t + 28), .none]⟩ })] (bi "str.__getitem__" [.str (X.text) X.19, .ref (n + 191)]) (fun t => Value.str (S [10]) t) 1), (21, .cut)]) O hA  (aC (ora_slice hd hl) <| aC (ora_slice hd2 hl) <| aC trivial <| aN) (fine_cut (is := [6, 7, 8, 9, 10, 11, 12, 13, 14, 15, 16, 17, 18]) (d := 19) (Vw.Is.eq (by refine Bool.rec ?_ ?_ b <;> and_intros <;> kernel_rfl)) rfl (next _ (rk_eq (by refine Bool.rec ?_ ?_ b <;> kernel_rfl)))) S₀
theorem lOBw_t {X : LX} {ln tl p tp ep n t : Nat} {r : Led} {gl : List GenState} {F : FR} {k2 tt : Nat} {k4 tc : Nat} {ch : Str} {c : Nat} {rs : List Nat} (hd : X.text.cps.toList.drop p = (c + 1) :: rs) (hl : 2 ≤ X.text.length) (h10 : c + 1 ≠ 10)(hws : (!(Builtin.Str.occurrences (S [10, 9, 13, 32]) (S [c + 1]) 0 (S [10, 9, 13, 32]).length 1).isEmpty) = true) (S₀ : St (Bw w b h₀) h ((F.fr + 186, frB (wf w b) F X.lx k2 tt k4 tc (S []) ch) :: (F.it + 186, itO F.mt F.ts) :: (F.mt + 186, mthO X.lx) :: (lexLed (wf w b) X (ln) (tl) (p) (tp) [] (ep) ++ r)) (n + 186))
  (next : ∀ h' t', St (Bw w b h₀) h' ((F.fr + 186, frB (wf w b) F X.lx k2 tt k4 (t + 8) (S []) (S [c + 1])) :: (F.it + 186, itO F.mt F.ts) :: (F.mt + 186, mthO X.lx) :: (lexLed (wf w b) X ln tl (p + 1) (t + 13) [] ep ++ r)) ((n + 189)) → cA w b A₀ (loopO (wf w b).params F.it F.fr) R (sh h' gl dr t' os)) :
  cA w b A₀ (loopO (wf w b).params F.it F.fr) R (sh h gl dr t os) := by
 exact code_run (f := 234) (ls := (dg 96 1864465222973124374698902930046612708266172790135211068024990514289571700975309165726633754671888735637862797503534791640444076141434498078238187912467756845009431390669394386511427543821603)) (qs := [(17, .ora [0] [((n + 188), { cls := .type "slice", dict := none, data := .fields ⟨[.int (Int.ofNat p) tp, .int (Int.ofNat (p + 1)) (t + 7), .none]⟩ })] (bi "str.__getitem__" [.str (X.text) X.19, .ref (n + 188)]) (fun t => Value.str (S [c + 1]) t) 1), (11, .ora [] [] (bi "str.__eq__" [.str (S [c + 1]) (t + 8), .str (S [10]) (t + 16)]) (fun t => Value.bool false) 0), (4, .ora [] [] (bi "str.__contains__" [.str (S [10, 9, 13, 32]) X.16, .str (S [c + 1]) (t + 8)]) (fun t => Value.bool true) 0), (0, .cut)]) O hA  (aC (ora_slice hd hl) <| aC (ora_str_eq _ _ _ _ _ (by simp [S]; lia)) <| aC (ora_str_contains _ _ _ _ _ hws) <| aC trivial <| aN) (fine_loop (is := [3, 4, 5, 6, 7, 8, 9, 10, 11, 12, 13, 14, 15]) (d := 16) (Vw.Is.eq (by refine Bool.rec ?_ ?_ b <;> and_intros <;> kernel_rfl)) rfl next) S₀
theorem lOBn_t {X : LX} {ln tl p tp ep n t : Nat} {r : Led} {gl : List GenState} {F : FR} {k2 tt : Nat} {k4 tc : Nat} {ch : Str} {rs : List Nat} (hd : X.text.cps.toList.drop p = (10) :: rs) (hl : 2 ≤ X.text.length)  (S₀ : St (Bw w b h₀) h ((F.fr + 186, frB (wf w b) F X.lx k2 tt k4 tc (S []) ch) :: (F.it + 186, itO F.mt F.ts) :: (F.mt + 186, mthO X.lx) :: (lexLed (wf w b) X (ln) (tl) (p) (tp) [] (ep) ++ r)) (n + 186))
  (next : ∀ h' t', St (Bw w b h₀) h' ((F.fr + 186, frB (wf w b) F X.lx k2 tt k4 (t + 8) (S []) (S [10])) :: (F.it + 186, itO F.mt F.ts) :: (F.mt + 186, mthO X.lx) :: (lexLed (wf w b) X (ln + 1) (t + 19) (p + 1) (t + 13) [] ep ++ r)) ((n + 189)) → cA w b A₀ (loopO (wf w b).params F.it F.fr) R (sh h' gl dr t' os)) :
  cA w b A₀ (loopO (wf w b).params F.it F.fr) R (sh h gl dr t os) := by
 exact code_run (f := 286) (ls := (dg 126 547887356308494703147832780192730089708702746603970939392046146972675365778149372260747764321929076061669628098953623085210399639443393645580319172581656809178261147201119080898301051112608736587712202537062703147446374006737715166984991136092319011)) (qs := [(17, .ora [0] [((n + 188), { cls := .type "slice", dict := none, data := .fields ⟨[.int (Int.ofNat p) tp, .int (Int.ofNat (p + 1)) (t + 7), .none]⟩ })] (bi "str.__getitem__" [.str (X.text) X.19, .ref (n + 188)]) (fun t => Value.str (S [10]) t) 1), (22, .cut)]) O hA  (aC (ora_slice hd hl) <| aC trivial <| aN) (fine_loop (is := [3, 4, 5, 6, 7, 8, 9, 10, 11, 12, 13, 14, 15]) (d := 16) (Vw.Is.eq (by refine Bool.rec ?_ ?_ b <;> and_intros <;> kernel_rfl)) rfl next) S₀
theorem lOBq_t {X : LX} {ln tl p tp ep n t : Nat} {r : Led} {gl : List GenState} {F : FR} {k2 tt : Nat} {k4 tc : Nat} {ch : Str} {rs : List Nat} (hd : X.text.cps.toList.drop p = (34) :: rs) (hl : 2 ≤ X.text.length)  (S₀ : St (Bw w b h₀) h ((F.fr + 186, frB (wf w b) F X.lx k2 tt k4 tc (S []) ch) :: (F.it + 186, itO F.mt F.ts) :: (F.mt + 186, mthO X.lx) :: (lexLed (wf w b) X (ln) (tl) (p) (tp) [] (ep) ++ r)) (n + 186))
  (next : ∀ κ, κ = kgQ w b F.it F.fr → depOk A₀ κ → κ.rlen = 1 → κ.len = 1 → ∀ h' t', St (Bw w b h₀) h' ((F.fr + 186, frB (wf w b) F X.lx k2 tt k4 (t + 8) (S []) (S [34])) :: (F.it + 186, itO F.mt F.ts) :: (F.mt + 186, mthO X.lx) :: (lexLed (wf w b) X ln tl (p + 1) (t + 13) [] ep ++ r)) ((n + 189)) → cA w b (arnd A₀ κ) (loopQ (wf w b).params F.it F.fr) (endK (Bw w b h₀) A₀ R κ) (sh h' gl dr t' os)) :
  cA w b A₀ (loopO (wf w b).params F.it F.fr) R (sh h gl dr t os) := by
 exact code_run (f := 256) (ls := (dg 102 981959134144401646896496186653179829386781388035048733831382259786846583600923127024536406832990522867786178344995800253305456714580711079562803404200888199967158844813800242464891471266405289560698147)) (qs := [(17, .ora [0] [((n + 188), { cls := .type "slice", dict := none, data := .fields ⟨[.int (Int.ofNat p) tp, .int (Int.ofNat (p + 1)) (t + 7), .none]⟩ })] (bi "str.__getitem__" [.str (X.text) X.19, .ref (n + 188)]) (fun t => Value.str (S [34]) t) 1), (21, .cut)]) O hA  (aC (ora_slice hd hl) <| aC trivial <| aN) (fine_cut (is := [3, 4, 5, 6, 7, 8, 9, 10, 11, 12, 13, 14, 15]) (d := 16) (Vw.Is.eq (by refine Bool.rec ?_ ?_ b <;> and_intros <;> kernel_rfl)) rfl (next _ (rk_eq (by refine Bool.rec ?_ ?_ b <;> kernel_rfl)))) S₀
theorem lOBe_t {X : LX} {ln tl p tp ep n t : Nat} {r : Led} {gl : List GenState} {F : FR} {k2 tt : Nat} {k4 tc : Nat} {ch : Str} {c : Nat} {rs : List Nat} (hd : X.text.cps.toList.drop p = (92) :: rs) (hl : 2 ≤ X.text.length) {rs2 : List Nat} (hd2 : X.text.cps.toList.drop (p + 1) = (c + 1) :: rs2) (h10 : c + 1 ≠ 10) (S₀ : St (Bw w b h₀) h ((F.fr + 186, frB (wf w b) F X.lx k2 tt k4 tc (S []) ch) :: (F.it + 186, itO F.mt F.ts) :: (F.mt + 186, mthO X.lx) :: (lexLed (wf w b) X (ln) (tl) (p) (tp) [] (ep) ++ r)) (n + 186))
  (next : ∀ κ, κ = kgU w b F.it F.fr → depOk A₀ κ → κ.rlen = 1 → κ.len = 1 → ∀ h' t', St (Bw w b h₀) h' ((F.fr + 186, frB (wf w b) F X.lx k2 (t + 29) k4 (t + 29) (S [c + 1]) (S [c + 1])) :: (F.it + 186, itO F.mt F.ts) :: (F.mt + 186, mthO X.lx) :: (lexLed (wf w b) X ln tl (p + 2) (t + 34) [] ep ++ r)) ((n + 192)) → cA w b (arnd A₀ κ) (loopU (wf w b).params F.it F.fr) (endK (Bw w b h₀) A₀ R κ) (sh h' gl dr t' os)) :
  cA w b A₀ (loopO (wf w b).params F.it F.fr) R (sh h gl dr t os) := by
 exact code_run (f := 488) (ls := (dg 196 3174538360252769373746819260595154746930899570553133265396718406334540681535841173248005939288390493269317883299536450643866428384644880748812861434105902091083159104534333544995068705860202523775415460793662855108979647310959241637441033163803263714643510211282634114868796842078587379695163309151038085817940799783374848414108047605710610358049195459530305402764615344350366721055976739)) (qs := [(17, .ora [0] [((n + 188), { cls := .type "slice", dict := none, data := .fields ⟨[.int (Int.ofNat p) tp, .int (Int.ofNat (p + 1)) (t + 7), .none]⟩ })] (bi "str.__getitem__" [.str (X.text) X.19, .ref (n + 188)]) (fun t => Value.str (S [92]) t) 1), (35, .ora [0] [((n + 191), { cls := .type "slice", dict := none, data := .fields ⟨[.int (Int.ofNat (p + 1)) (t + 13), .int (Int.ofNat (p + 2)) (t + 28), .none]⟩ })] (bi "str.__getitem__" [.str (X.text) X.19, .ref (n + 191)]) (fun t => Value.str (S [c + 1]) t) 1), (11, .ora [] [] (bi "str.__eq__" [.str (S [c + 1]) (t + 29), .str (S [10]) (t + 37)]) (fun t => Value.bool false) 0), (4, .cut)]) O hA  (aC (ora_slice hd hl) <| aC (ora_slice hd2 hl) <| aC (ora_str_eq _ _ _ _ _ (by simp [S]; lia)) <| aC trivial <| aN) (fine_cut (is := [6, 7, 8, 9, 10, 11, 12, 13, 14, 15, 16, 17, 18]) (d := 19) (Vw.Is.eq (by refine Bool.rec ?_ ?_ b <;> and_intros <;> kernel_rfl)) rfl (next _ (rk_eq (by refine Bool.rec ?_ ?_ b <;> kernel_rfl)))) S₀
theorem lOBm_t {X : LX} {ln tl p tp ep n t : Nat} {r : Led} {gl : List GenState} {F : FR} {k2 tt : Nat} {k4 tc : Nat} {ch : Str} {rs : List Nat} (hd : X.text.cps.toList.drop p = (92) :: rs) (hl : 2 ≤ X.text.length) {rs2 : List Nat} (hd2 : X.text.cps.toList.drop (p + 1) = (10) :: rs2)  (S₀ : St (Bw w b h₀) h ((F.fr + 186, frB (wf w b) F X.lx k2 tt k4 tc (S []) ch) :: (F.it + 186, itO F.mt F.ts) :: (F.mt + 186, mthO X.lx) :: (lexLed (wf w b) X (ln) (tl) (p) (tp) [] (ep) ++ r)) (n + 186))
  (next : ∀ κ, κ = kgU w b F.it F.fr → depOk A₀ κ → κ.rlen = 1 → κ.len = 1 → ∀ h' t', St (Bw w b h₀) h' ((F.fr + 186, frB (wf w b) F X.lx k2 (t + 29) k4 (t + 29) (S [10]) (S [10])) :: (F.it + 186, itO F.mt F.ts) :: (F.mt + 186, mthO X.lx) :: (lexLed (wf w b) X (ln + 1) (t + 40) (p + 2) (t + 34) [] ep ++ r)) ((n + 192)) → cA w b (arnd A₀ κ) (loopU (wf w b).params F.it F.fr) (endK (Bw w b h₀) A₀ R κ) (sh h' gl dr t' os)) :
  cA w b A₀ (loopO (wf w b).params F.it F.fr) R (sh h gl dr t os) := by
 exact code_run (f := 539) (ls := (dg 226 932862360889348072439894457981870346715884411064723560420578599754063155663179370570889333518098738722540265693201467802446031632683096521739776581419334269829533649745465599719221825747565232301850073096275149494802980251129275167694643775101119682363785788983731853517729503816865025882512878500567562025612303699631806509653254180997019337026902242330438441250202940808813628917213745506671922195257261087878417551799541913677614596571179576611)) (qs := [(17, .ora [0] [((n + 188), { cls := .type "slice", dict := none, data := .fields ⟨[.int (Int.ofNat p) tp, .int (Int.ofNat (p + 1)) (t + 7), .none]⟩ })] (bi "str.__getitem__" [.str (X.text) X.19, .ref (n + 188)]) (fun t => Value.str (S [92]) t) 1), (35, .ora [0] [((n + 191), { cls := .type "slice", dict := none, data := .fields ⟨[.int (Int.ofNat (p + 1)) (t + 13), .int (Int.ofNat (p + 2)) (t + 28), .none]⟩ })] (bi "str.__getitem__" [.str (X.text) X.19, .ref (n + 191)]) (fun t => Value.str (S [10]) t) 1), (21, .cut)]) O hA  (aC (ora_slice hd hl) <| aC (ora_slice hd2 hl) <| aC trivial <| aN) (fine_cut (is := [6, 7, 8, 9, 10, 11, 12, 13, 14, 15, 16, 17, 18]) (d := 19) (Vw.Is.eq (by refine Bool.rec ?_ ?_ b <;> and_intros <;> kernel_rfl)) rfl (next _ (rk_eq (by refine Bool.rec ?_ ?_ b <;> kernel_rfl)))) S₀
theorem lQc0_t {X : LX} {ln tl p tp ep n t : Nat} {r : Led} {gl : List GenState} {F : FR} {k2 tt : Nat} {k4 tc : Nat} {ch : Str} {c : Nat} {rs : List Nat} (hd : X.text.cps.toList.drop p = (c + 1) :: rs) (hl : 2 ≤ X.text.length) (h10 : c + 1 ≠ 10)(hq : c + 1 ≠ 34)(he : c + 1 ≠ 92) (S₀ : St (Bw w b h₀) h ((F.fr + 186, frB (wf w b) F X.lx k2 tt k4 tc (S []) ch) :: (F.it + 186, itO F.mt F.ts) :: (F.mt + 186, mthO X.lx) :: (lexLed (wf w b) X (ln) (tl) (p) (tp) [] (ep) ++ r)) (n + 186))
  (next : ∀ h' t', St (Bw w b h₀) h' ((F.fr + 186, frB (wf w b) F X.lx k2 (t + 8) k4 (t + 8) (S [c + 1]) (S [c + 1])) :: (F.it + 186, itO F.mt F.ts) :: (F.mt + 186, mthO X.lx) :: (lexLed (wf w b) X ln tl (p + 1) (t + 13) [] ep ++ r)) ((n + 189)) → cA w b A₀ (loopQ (wf w b).params F.it F.fr) R (sh h' gl dr t' os)) :
  cA w b A₀ (loopQ (wf w b).params F.it F.fr) R (sh h gl dr t os) := by
 exact code_run (f := 240) (ls := (dg 88 144915522330213047485921649684647629349631951864166739071072261335665570263850117590182394478528939211305259281743848495287665117093733501574527970535887227769270556919655715)) (qs := [(17, .ora [0] [((n + 188), { cls := .type "slice", dict := none, data := .fields ⟨[.int (Int.ofNat p) tp, .int (Int.ofNat (p + 1)) (t + 7), .none]⟩ })] (bi "str.__getitem__" [.str (X.text) X.19, .ref (n + 188)]) (fun t => Value.str (S [c + 1]) t) 1), (11, .ora [] [] (bi "str.__eq__" [.str (S [c + 1]) (t + 8), .str (S [10]) (t + 16)]) (fun t => Value.bool false) 0), (1, .ora [] [] (bi "str.__eq__" [.str (S []) F.6, .str (S [c + 1]) (t + 8)]) (fun t => Value.bool false) 0), (1, .ora [] [] (bi "str.__eq__" [.str (S [c + 1]) (t + 8), .str (S [34]) (t + 18)]) (fun t => Value.bool false) 0), (1, .ora [] [] (bi "str.__eq__" [.str (S [c + 1]) (t + 8), .str (S [92]) (t + 19)]) (fun t => Value.bool false) 0), (2, .cut)]) O hA  (aC (ora_slice hd hl) <| aC (ora_str_eq _ _ _ _ _ (by simp [S]; lia)) <| aC (ora_str_eq _ _ _ _ _ rfl) <| aC (ora_str_eq _ _ _ _ _ (by simp [S]; lia)) <| aC (ora_str_eq _ _ _ _ _ (by simp [S]; lia)) <| aC trivial <| aN) (fine_loop (is := [3, 4, 5, 6, 7, 8, 9, 10, 11, 12, 13, 14, 15]) (d := 16) (Vw.Is.eq (by refine Bool.rec ?_ ?_ b <;> and_intros <;> kernel_rfl)) rfl next) S₀
theorem lQn0_t {X : LX} {ln tl p tp ep n t : Nat} {r : Led} {gl : List GenState} {F : FR} {k2 tt : Nat} {k4 tc : Nat} {ch : Str} {rs : List Nat} (hd : X.text.cps.toList.drop p = (10) :: rs) (hl : 2 ≤ X.text.length)  (S₀ : St (Bw w b h₀) h ((F.fr + 186, frB (wf w b) F X.lx k2 tt k4 tc (S []) ch) :: (F.it + 186, itO F.mt F.ts) :: (F.mt + 186, mthO X.lx) :: (lexLed (wf w b) X (ln) (tl) (p) (tp) [] (ep) ++ r)) (n + 186))
  (next : ∀ h' t', St (Bw w b h₀) h' ((F.fr + 186, frB (wf w b) F X.lx k2 (t + 8) k4 (t + 8) (S [10]) (S [10])) :: (F.it + 186, itO F.mt F.ts) :: (F.mt + 186, mthO X.lx) :: (lexLed (wf w b) X (ln + 1) (t + 19) (p + 1) (t + 13) [] ep ++ r)) ((n + 189)) → cA w b A₀ (loopQ (wf w b).params F.it F.fr) R (sh h' gl dr t' os)) :
  cA w b A₀ (loopQ (wf w b).params F.it F.fr) R (sh h gl dr t os) := by
 exact code_run (f := 294) (ls := (dg 118 42584533859503123873594821938611289042832218917952969557688832065366869025796055721140151677213426599630905142098636244959364207969617967382636645928620350994199717176777356029485861321602867751082839617146249281302581088880142380323)) (qs := [(17, .ora [0] [((n + 188), { cls := .type "slice", dict := none, data := .fields ⟨[.int (Int.ofNat p) tp, .int (Int.ofNat (p + 1)) (t + 7), .none]⟩ })] (bi "str.__getitem__" [.str (X.text) X.19, .ref (n + 188)]) (fun t => Value.str (S [10]) t) 1), (25, .cut)]) O hA  (aC (ora_slice hd hl) <| aC trivial <| aN) (fine_loop (is := [3, 4, 5, 6, 7, 8, 9, 10, 11, 12, 13, 14, 15]) (d := 16) (Vw.Is.eq (by refine Bool.rec ?_ ?_ b <;> and_intros <;> kernel_rfl)) rfl next) S₀
theorem lQe0_t {X : LX} {ln tl p tp ep n t : Nat} {r : Led} {gl : List GenState} {F : FR} {k2 tt : Nat} {k4 tc : Nat} {ch : Str} {c : Nat} {rs : List Nat} (hd : X.text.cps.toList.drop p = (92) :: rs) (hl : 2 ≤ X.text.length) {rs2 : List Nat} (hd2 : X.text.cps.toList.drop (p + 1) = (c + 1) :: rs2) (h10 : c + 1 ≠ 10) (S₀ : St (Bw w b h₀) h ((F.fr + 186, frB (wf w b) F X.lx k2 tt k4 tc (S []) ch) :: (F.it + 186, itO F.mt F.ts) :: (F.mt + 186, mthO X.lx) :: (lexLed (wf w b) X (ln) (tl) (p) (tp) [] (ep) ++ r)) (n + 186))
  (next : ∀ h' t', St (Bw w b h₀) h' ((F.fr + 186, frB (wf w b) F X.lx k2 (t + 28) k4 (t + 28) (S [c + 1]) (S [c + 1])) :: (F.it + 186, itO F.mt F.ts) :: (F.mt + 186, mthO X.lx) :: (lexLed (wf w b) X ln tl (p + 2) (t + 33) [] ep ++ r)) ((n + 192)) → cA w b A₀ (loopQ (wf w b).params F.it F.fr) R (sh h' gl dr t' os)) :
  cA w b A₀ (loopQ (wf w b).params F.it F.fr) R (sh h gl dr t os) := by
 exact code_run (f := 450) (ls := (dg 177 61287884333917617450495256339376441485600202597849011712799941007582476736400062758717888260420697651389083968140526301608884890761078807442226753059885013685934315664758805243533354990712603533083489562818658197865235644090360921956287807981218119347502005115838902863761073897842737205446766012042182536085860437587567069928679859449006132866641187)) (qs := [(17, .ora [0] [((n + 188), { cls := .type "slice", dict := none, data := .fields ⟨[.int (Int.ofNat p) tp, .int (Int.ofNat (p + 1)) (t + 7), .none]⟩ })] (bi "str.__getitem__" [.str (X.text) X.19, .ref (n + 188)]) (fun t => Value.str (S [92]) t) 1), (32, .ora [0] [((n + 191), { cls := .type "slice", dict := none, data := .fields ⟨[.int (Int.ofNat (p + 1)) (t + 13), .int (Int.ofNat (p + 2)) (t + 27), .none]⟩ })] (bi "str.__getitem__" [.str (X.text) X.19, .ref (n + 191)]) (fun t => Value.str (S [c + 1]) t) 1), (11, .ora [] [] (bi "str.__eq__" [.str (S [c + 1]) (t + 28), .str (S [10]) (t + 36)]) (fun t => Value.bool false) 0), (2, .cut)]) O hA  (aC (ora_slice hd hl) <| aC (ora_slice hd2 hl) <| aC (ora_str_eq _ _ _ _ _ (by simp [S]; lia)) <| aC trivial <| aN) (fine_loop (is := [6, 7, 8, 9, 10, 11, 12, 13, 14, 15, 16, 17, 18]) (d := 19) (Vw.Is.eq (by refine Bool.rec ?_ ?_ b <;> and_intros <;> kernel_rfl)) rfl next) S₀
theorem lQc1_t {X : LX} {ln tl p tp ep n t : Nat} {r : Led} {gl : List GenState} {F : FR} {k2 tt : Nat} {k4 tc : Nat} {ch : Str} {a c : Nat} {rs : List Nat} (hd : X.text.cps.toList.drop p = (c + 1) :: rs) (hl : 2 ≤ X.text.length) (h10 : c + 1 ≠ 10)(hq : c + 1 ≠ 34)(he : c + 1 ≠ 92) (S₀ : St (Bw w b h₀) h ((F.fr + 186, frB (wf w b) F X.lx k2 tt k4 tc (S [a]) ch) :: (F.it + 186, itO F.mt F.ts) :: (F.mt + 186, mthO X.lx) :: (lexLed (wf w b) X (ln) (tl) (p) (tp) [] (ep) ++ r)) (n + 186))
  (next : ∀ h' t', St (Bw w b h₀) h' ((F.fr + 186, frB (wf w b) F X.lx k2 (t + 20) k4 (t + 8) (S [a] ++ S [c + 1]) (S [c + 1])) :: (F.it + 186, itO F.mt F.ts) :: (F.mt + 186, mthO X.lx) :: (lexLed (wf w b) X ln tl (p + 1) (t + 13) [] ep ++ r)) ((n + 189)) → cA w b A₀ (loopQ (wf w b).params F.it F.fr) R (sh h' gl dr t' os)) :
  cA w b A₀ (loopQ (wf w b).params F.it F.fr) R (sh h gl dr t os) := by
 exact code_run (f := 240) (ls := (dg 88 144915522330213047485921649684647629349631951864166739071072261335665570263850117590182394478528939211305259281743848495287665117093733501574527970535887227769270556919655715)) (qs := [(17, .ora [0] [((n + 188), { cls := .type "slice", dict := none, data := .fields ⟨[.int (Int.ofNat p) tp, .int (Int.ofNat (p + 1)) (t + 7), .none]⟩ })] (bi "str.__getitem__" [.str (X.text) X.19, .ref (n + 188)]) (fun t => Value.str (S [c + 1]) t) 1), (11, .ora [] [] (bi "str.__eq__" [.str (S [c + 1]) (t + 8), .str (S [10]) (t + 16)]) (fun t => Value.bool false) 0), (1, .ora [] [] (bi "str.__eq__" [.str (S []) F.6, .str (S [c + 1]) (t + 8)]) (fun t => Value.bool false) 0), (1, .ora [] [] (bi "str.__eq__" [.str (S [c + 1]) (t + 8), .str (S [34]) (t + 18)]) (fun t => Value.bool false) 0), (1, .ora [] [] (bi "str.__eq__" [.str (S [c + 1]) (t + 8), .str (S [92]) (t + 19)]) (fun t => Value.bool false) 0), (2, .cut)]) O hA  (aC (ora_slice hd hl) <| aC (ora_str_eq _ _ _ _ _ (by simp [S]; lia)) <| aC (ora_str_eq _ _ _ _ _ rfl) <| aC (ora_str_eq _ _ _ _ _ (by simp [S]; lia)) <| aC (ora_str_eq _ _ _ _ _ (by simp [S]; lia)) <| aC trivial <| aN) (fine_loop (is := [3, 4, 5, 6, 7, 8, 9, 10, 11, 12, 13, 14, 15]) (d := 16) (Vw.Is.eq (by refine Bool.rec ?_ ?_ b <;> and_intros <;> kernel_rfl)) rfl next) S₀
theorem lQz_t {X : LX} {ln tl p tp ep n t : Nat} {r : Led} {gl : List GenState} {F : FR} {k2 tt : Nat} {k4 tc : Nat} {ch : Str} {tok : Str} {rs : List Nat} (hd : X.text.cps.toList.drop p = (34) :: rs) (hl : 2 ≤ X.text.length)  (S₀ : St (Bw w b h₀) h ((F.fr + 186, frB (wf w b) F X.lx k2 tt k4 tc (tok) ch) :: (F.it + 186, itO F.mt F.ts) :: (F.mt + 186, mthO X.lx) :: (lexLed (wf w b) X (ln) (tl) (p) (tp) [] (ep) ++ r)) (n + 186))
  (next : ∀ h' t', St (Bw w b h₀) h' ((F.fr + 186, frB (wf w b) F X.lx k2 tt k4 (t + 8) (tok) (S [34])) :: (F.it + 186, itO F.mt F.ts) :: (F.mt + 186, mthO X.lx) :: (lexLed (wf w b) X ln tl (p + 1) (t + 13) [] ep ++ r)) ((n + 189)) → R (.ok (.ret (.str (tok) tt))) (sh h' gl dr t' os)) :
  cA w b A₀ (loopQ (wf w b).params F.it F.fr) R (sh h gl dr t os) := by
 exact code_run (f := 221) (ls := (dg 84 1706200148398540856153562435599557133022849006731850480586832405033581395489851470758569417748769401794513748639704767726504785355769755103697328865607417071403592995)) (qs := [(17, .ora [0] [((n + 188), { cls := .type "slice", dict := none, data := .fields ⟨[.int (Int.ofNat p) tp, .int (Int.ofNat (p + 1)) (t + 7), .none]⟩ })] (bi "str.__getitem__" [.str (X.text) X.19, .ref (n + 188)]) (fun t => Value.str (S [34]) t) 1)]) O hA  (aC (ora_slice hd hl) <| aN) (fine_done (is := [3, 4, 5, 6, 7, 8, 9, 10, 11, 12, 13, 14, 15]) (d := 16) (Vw.Is.eq (by refine Bool.rec ?_ ?_ b <;> and_intros <;> kernel_rfl)) rfl next) S₀
theorem lUc1_t {X : LX} {ln tl p tp ep n t : Nat} {r : Led} {gl : List GenState} {F : FR} {k2 tt : Nat} {k4 tc : Nat} {ch : Str} {a c : Nat} {rs : List Nat} (hd : X.text.cps.toList.drop p = (c + 1) :: rs) (hl : 2 ≤ X.text.length) (h10 : c + 1 ≠ 10)(hws : (!(Builtin.Str.occurrences (S [10, 9, 13, 32]) (S [c + 1]) 0 (S [10, 9, 13, 32]).length 1).isEmpty) = false)(he : c + 1 ≠ 92) (S₀ : St (Bw w b h₀) h ((F.fr + 186, frB (wf w b) F X.lx k2 tt k4 tc (S [a]) ch) :: (F.it + 186, itO F.mt F.ts) :: (F.mt + 186, mthO X.lx) :: (lexLed (wf w b) X (ln) (tl) (p) (tp) [] (ep) ++ r)) (n + 186))
  (next : ∀ h' t', St (Bw w b h₀) h' ((F.fr + 186, frB (wf w b) F X.lx k2 (t + 20) k4 (t + 8) (S [a] ++ S [c + 1]) (S [c + 1])) :: (F.it + 186, itO F.mt F.ts) :: (F.mt + 186, mthO X.lx) :: (lexLed (wf w b) X ln tl (p + 1) (t + 13) [] ep ++ r)) ((n + 189)) → cA w b A₀ (loopU (wf w b).params F.it F.fr) R (sh h' gl dr t' os)) :
  cA w b A₀ (loopU (wf w b).params F.it F.fr) R (sh h gl dr t os) := by
 exact code_run (f := 258) (ls := (dg 101 8523950834764146216063034462467204663112563241471380640118094757360939594513213902176846231196543806847841438604536081284285885487325596463811308208109127553812958880616958306333647130750537075060003)) (qs := [(17, .ora [0] [((n + 188), { cls := .type "slice", dict := none, data := .fields ⟨[.int (Int.ofNat p) tp, .int (Int.ofNat (p + 1)) (t + 7), .none]⟩ })] (bi "str.__getitem__" [.str (X.text) X.19, .ref (n + 188)]) (fun t => Value.str (S [c + 1]) t) 1), (11, .ora [] [] (bi "str.__eq__" [.str (S [c + 1]) (t + 8), .str (S [10]) (t + 16)]) (fun t => Value.bool false) 0), (4, .ora [] [] (bi "str.__contains__" [.str (S [10, 9, 13, 32]) X.16, .str (S [c + 1]) (t + 8)]) (fun t => Value.bool false) 0), (1, .ora [] [] (bi "str.__eq__" [.str (S [c + 1]) (t + 8), .str (S [92]) (t + 19)]) (fun t => Value.bool false) 0), (2, .cut)]) O hA  (aC (ora_slice hd hl) <| aC (ora_str_eq _ _ _ _ _ (by simp [S]; lia)) <| aC (ora_str_contains _ _ _ _ _ hws) <| aC (ora_str_eq _ _ _ _ _ (by simp [S]; lia)) <| aC trivial <| aN) (fine_loop (is := [3, 4, 5, 6, 7, 8, 9, 10, 11, 12, 13, 14, 15]) (d := 16) (Vw.Is.eq (by refine Bool.rec ?_ ?_ b <;> and_intros <;> kernel_rfl)) rfl next) S₀
theorem lUw_t {X : LX} {ln tl p tp ep n t : Nat} {r : Led} {gl : List GenState} {F : FR} {k2 tt : Nat} {k4 tc : Nat} {ch : Str} {tok : Str} {c : Nat} {rs : List Nat} (hd : X.text.cps.toList.drop p = (c + 1) :: rs) (hl : 2 ≤ X.text.length) (h10 : c + 1 ≠ 10)(hws : (!(Builtin.Str.occurrences (S [10, 9, 13, 32]) (S [c + 1]) 0 (S [10, 9, 13, 32]).length 1).isEmpty) = true) (S₀ : St (Bw w b h₀) h ((F.fr + 186, frB (wf w b) F X.lx k2 tt k4 tc (tok) ch) :: (F.it + 186, itO F.mt F.ts) :: (F.mt + 186, mthO X.lx) :: (lexLed (wf w b) X (ln) (tl) (p) (tp) [] (ep) ++ r)) (n + 186))
  (next : ∀ h' t', St (Bw w b h₀) h' ((F.fr + 186, frB (wf w b) F X.lx k2 tt k4 (t + 8) (tok) (S [c + 1])) :: (F.it + 186, itO F.mt F.ts) :: (F.mt + 186, mthO X.lx) :: (lexLed (wf w b) X ln tl (p + 1) (t + 13) [] ep ++ r)) ((n + 189)) → R (.ok (.ret (.str (tok) tt))) (sh h' gl dr t' os)) :
  cA w b A₀ (loopU (wf w b).params F.it F.fr) R (sh h gl dr t os) := by
 exact code_run (f := 236) (ls := (dg 97 101177985482887112277579531127434674581807787255892417237952448808527485231461901048961235342449661360495160865401370181103108039752227883838594354650285129731448787962663891048953820729634083)) (qs := [(17, .ora [0] [((n + 188), { cls := .type "slice", dict := none, data := .fields ⟨[.int (Int.ofNat p) tp, .int (Int.ofNat (p + 1)) (t + 7), .none]⟩ })] (bi "str.__getitem__" [.str (X.text) X.19, .ref (n + 188)]) (fun t => Value.str (S [c + 1]) t) 1), (11, .ora [] [] (bi "str.__eq__" [.str (S [c + 1]) (t + 8), .str (S [10]) (t + 16)]) (fun t => Value.bool false) 0), (4, .ora [] [] (bi "str.__contains__" [.str (S [10, 9, 13, 32]) X.16, .str (S [c + 1]) (t + 8)]) (fun t => Value.bool true) 0)]) O hA  (aC (ora_slice hd hl) <| aC (ora_str_eq _ _ _ _ _ (by simp [S]; lia)) <| aC (ora_str_contains _ _ _ _ _ hws) <| aN) (fine_done (is := [3, 4, 5, 6, 7, 8, 9, 10, 11, 12, 13, 14, 15]) (d := 16) (Vw.Is.eq (by refine Bool.rec ?_ ?_ b <;> and_intros <;> kernel_rfl)) rfl next) S₀
theorem lUn_t {X : LX} {ln tl p tp ep n t : Nat} {r : Led} {gl : List GenState} {F : FR} {k2 tt : Nat} {k4 tc : Nat} {ch : Str} {tok : Str} {rs : List Nat} (hd : X.text.cps.toList.drop p = (10) :: rs) (hl : 2 ≤ X.text.length)  (S₀ : St (Bw w b h₀) h ((F.fr + 186, frB (wf w b) F X.lx k2 tt k4 tc (tok) ch) :: (F.it + 186, itO F.mt F.ts) :: (F.mt + 186, mthO X.lx) :: (lexLed (wf w b) X (ln) (tl) (p) (tp) [] (ep) ++ r)) (n + 186))
  (next : ∀ h' t', St (Bw w b h₀) h' ((F.fr + 186, frB (wf w b) F X.lx k2 tt k4 (t + 8) (tok) (S [10])) :: (F.it + 186, itO F.mt F.ts) :: (F.mt + 186, mthO X.lx) :: (lexLed (wf w b) X (ln + 1) (t + 19) (p + 1) (t + 13) [] ep ++ r)) ((n + 189)) → R (.ok (.ret (.str (tok) tt))) (sh h' gl dr t' os)) :
  cA w b A₀ (loopU (wf w b).params F.it F.fr) R (sh h gl dr t os) := by
 exact code_run (f := 288) (ls := (dg 127 29731924360831770712775293330772432051138852979253694667668727108458589920141865079083118872168446585771675380161346165839382614203276789040101145418006047692622732607472064917174942247095591981385968772550969272792239733004186474084052777382756019491)) (qs := [(17, .ora [0] [((n + 188), { cls := .type "slice", dict := none, data := .fields ⟨[.int (Int.ofNat p) tp, .int (Int.ofNat (p + 1)) (t + 7), .none]⟩ })] (bi "str.__getitem__" [.str (X.text) X.19, .ref (n + 188)]) (fun t => Value.str (S [10]) t) 1)]) O hA  (aC (ora_slice hd hl) <| aN) (fine_done (is := [3, 4, 5, 6, 7, 8, 9, 10, 11, 12, 13, 14, 15]) (d := 16) (Vw.Is.eq (by refine Bool.rec ?_ ?_ b <;> and_intros <;> kernel_rfl)) rfl next) S₀
noncomputable def lOAz_q (w : World) (b : Bool) (X : LX) (ln tl p tp ep n t : Nat) (r : Led) (gl : List GenState) (F : FR) (k2 tt : Nat) : List (Nat × Act) := [(2, .cut)]
noncomputable def lOAz (w : World) (b : Bool) (X : LX) (ln tl p tp ep n t : Nat) (r : Led) (gl : List GenState) (F : FR) (k2 tt : Nat) : RO :=
 run (V0 (wf w b)) 15 [2, 2, 2, 2, 3, 0] (lOAz_q w b X ln tl p tp ep n t r gl F k2 tt) (loopO (wf w b).params F.it F.fr) none (.base) (denQ (loopO (wf w b).params F.it F.fr)) ((F.fr + 186, frA (wf w b) F X.lx k2 tt (S [])) :: (F.it + 186, itO F.mt F.ts) :: (F.mt + 186, mthO X.lx) :: (lexLed (wf w b) X (ln) (tl) (p) (tp) [] (ep) ++ r)) (n + 186) (t) gl Acc.nil Acc.nil
theorem lOAz_t {X : LX} {ln tl p tp ep n t : Nat} {r : Led} {gl : List GenState} {F : FR} {k2 tt : Nat} (S₀ : St (Bw w b h₀) h ((F.fr + 186, frA (wf w b) F X.lx k2 tt (S [])) :: (F.it + 186, itO F.mt F.ts) :: (F.mt + 186, mthO X.lx) :: (lexLed (wf w b) X (ln) (tl) (p) (tp) [] (ep) ++ r)) (n + 186))
  (next : ∀ κ, κ = (lOAz w b X ln tl p tp ep n t r gl F k2 tt).kont → depOk A₀ κ → κ.rlen = 2 → κ.len = 2 → ∀ h' t', St (Bw w b h₀) h' ((F.fr + 186, frA (wf w b) F X.lx k2 tt (S [])) :: (F.it + 186, itO F.mt F.ts) :: (F.mt + 186, mthO X.lx) :: (lexLed (wf w b) X (ln) (tl) (p) (tp) [] (ep) ++ r)) ((n + 186)) → cA w b (arnd A₀ κ) (Code.call (.ref (F.mt + 186)) ⟨[], []⟩) (endK (Bw w b h₀) A₀ R κ) (sh h' gl dr t' os)) :
  cA w b A₀ (loopO (wf w b).params F.it F.fr) R (sh h gl dr t os) := by
 exact code_run (qs := (lOAz_q w b X ln tl p tp ep n t r gl F k2 tt)) O hA  (aC trivial <| aN) (fine_cut (o := lOAz w b X ln tl p tp ep n t r gl F k2 tt) (is := [0, 1, 2, 3, 4, 5, 6, 7, 8, 9, 10, 11, 12]) (d := 13) (Vw.Is.eq (by refine Bool.rec ?_ ?_ b <;> and_intros <;> kernel_rfl)) rfl (next _ rfl)) S₀
noncomputable def lUz_q (w : World) (b : Bool) (X : LX) (ln tl p tp ep n t : Nat) (r : Led) (gl : List GenState) (F : FR) (k2 tt : Nat) (k4 tc : Nat) (ch : Str) (tok : Str) : List (Nat × Act) := [(2, .cut)]
noncomputable def lUz (w : World) (b : Bool) (X : LX) (ln tl p tp ep n t : Nat) (r : Led) (gl : List GenState) (F : FR) (k2 tt : Nat) (k4 tc : Nat) (ch : Str) (tok : Str) : RO :=
 run (V0 (wf w b)) 15 [2, 2, 2, 2, 3, 0] (lUz_q w b X ln tl p tp ep n t r gl F k2 tt k4 tc ch tok) (loopU (wf w b).params F.it F.fr) none (.base) (denQ (loopU (wf w b).params F.it F.fr)) ((F.fr + 186, frB (wf w b) F X.lx k2 tt k4 tc (tok) ch) :: (F.it + 186, itO F.mt F.ts) :: (F.mt + 186, mthO X.lx) :: (lexLed (wf w b) X (ln) (tl) (p) (tp) [] (ep) ++ r)) (n + 186) (t) gl Acc.nil Acc.nil
theorem lUz_t {X : LX} {ln tl p tp ep n t : Nat} {r : Led} {gl : List GenState} {F : FR} {k2 tt : Nat} {k4 tc : Nat} {ch : Str} {tok : Str} (S₀ : St (Bw w b h₀) h ((F.fr + 186, frB (wf w b) F X.lx k2 tt k4 tc (tok) ch) :: (F.it + 186, itO F.mt F.ts) :: (F.mt + 186, mthO X.lx) :: (lexLed (wf w b) X (ln) (tl) (p) (tp) [] (ep) ++ r)) (n + 186))
  (next : ∀ κ, κ = (lUz w b X ln tl p tp ep n t r gl F k2 tt k4 tc ch tok).kont → depOk A₀ κ → κ.rlen = 2 → κ.len = 2 → ∀ h' t', St (Bw w b h₀) h' ((F.fr + 186, frB (wf w b) F X.lx k2 tt k4 tc (tok) ch) :: (F.it + 186, itO F.mt F.ts) :: (F.mt + 186, mthO X.lx) :: (lexLed (wf w b) X (ln) (tl) (p) (tp) [] (ep) ++ r)) ((n + 186)) → cA w b (arnd A₀ κ) (Code.call (.ref (F.mt + 186)) ⟨[], []⟩) (endK (Bw w b h₀) A₀ R κ) (sh h' gl dr t' os)) :
  cA w b A₀ (loopU (wf w b).params F.it F.fr) R (sh h gl dr t os) := by
 exact code_run (qs := (lUz_q w b X ln tl p tp ep n t r gl F k2 tt k4 tc ch tok)) O hA  (aC trivial <| aN) (fine_cut (o := lUz w b X ln tl p tp ep n t r gl F k2 tt k4 tc ch tok) (is := [0, 1, 2, 3, 4, 5, 6, 7, 8, 9, 10, 11, 12]) (d := 13) (Vw.Is.eq (by refine Bool.rec ?_ ?_ b <;> and_intros <;> kernel_rfl)) rfl (next _ rfl)) S₀
theorem lRe_t {X : LX} {ln tl p tp ep n t : Nat} {r : Led} {gl : List GenState} {F : FR} (hd : p = X.text.length) (hl : 2 ≤ X.text.length) (S₀ : St (Bw w b h₀) h ((F.it + 186, itO F.mt F.ts) :: (F.mt + 186, mthO X.lx) :: (lexLed (wf w b) X (ln) (tl) (p) (tp) [] (ep) ++ r)) (n + 186))
  (next : ∀ h' t', St (Bw w b h₀) h' ((F.it + 186, itO F.mt F.ts) :: (F.mt + 186, mthO X.lx) :: (lexLed (wf w b) X ln tl p (t + 13) [] ep ++ r)) ((n + 189)) → R (.ok (.ret (.str (S []) (t + 8)))) (sh h' gl dr t' os)) :
  cA w b A₀ (Code.call (.ref (F.mt + 186)) ⟨[], []⟩) R (sh h gl dr t os) := by
 exact code_run (f := 184) (ls := (dg 72 2227743389769748745716282149039956033489318297923152556909289886913737985127921124150915001834084041132472397981329411986702577917848860861731)) (qs := [(14, .ora [0] [((n + 188), { cls := .type "slice", dict := none, data := .fields ⟨[.int (Int.ofNat p) tp, .int (Int.ofNat (p + 1)) (t + 7), .none]⟩ })] (bi "str.__getitem__" [.str (X.text) X.19, .ref (n + 188)]) (fun t => Value.str (S []) t) 1)]) O hA  (aC (ora_slice_end hd hl) <| aN) (fine_done (is := [3, 4, 5, 6, 7, 8, 9, 10, 11, 12, 13, 14]) (d := 15) (Vw.Is.eq (by refine Bool.rec ?_ ?_ b <;> and_intros <;> kernel_rfl)) rfl next) S₀
noncomputable def gS_q (w : World) (b : Bool) (X : LX) (ln tl p tp ep n t : Nat) (r : Led) (gl : List GenState) : List (Nat × Act) := [(12, .cut)]
noncomputable def gS (w : World) (b : Bool) (X : LX) (ln tl p tp ep n t : Nat) (r : Led) (gl : List GenState) : RO :=
 run (V0 (wf w b)) 121 (dg 55 222958591770280922420533614654454015883663665666664743045229599133443128551323510110125851047677733175511137) (gS_q w b X ln tl p tp ep n t r gl) (Code.call (.ref 49) ⟨[.ref (X.lx + 186)], []⟩) none (.base) (denQ (Code.call (.ref 49) ⟨[.ref (X.lx + 186)], []⟩)) ((lexLed (wf w b) X (ln) (tl) (p) (tp) [] (ep) ++ r)) (n + 186) (t) gl Acc.nil Acc.nil
theorem gS_t {X : LX} {ln tl p tp ep n t : Nat} {r : Led} {gl : List GenState} (S₀ : St (Bw w b h₀) h ((lexLed (wf w b) X (ln) (tl) (p) (tp) [] (ep) ++ r)) (n + 186))
  (next : ∀ κ, κ = (gS w b X ln tl p tp ep n t r gl).kont → depOk A₀ κ → κ.rlen = 1 → κ.len = 1 → ∀ h' t', St (Bw w b h₀) h' ((n + 186, frameO 3 [en (wf w b) c_self t (.ref (X.1 + 186)), en (wf w b) [116, 111, 107, 101, 110] (t + 5) (.str (S []) (t + 4)), en (wf w b) [102, 105, 116, 101, 114] (t + 8) (.ref (n + 188))]) :: (n + 188, { cls := .type "callable_iterator", dict := none, data := .fields ⟨[.ref (n + 187), .str (S []) (t + 7), .bool false]⟩ }) :: (n + 187, { cls := .type "method", dict := none, data := .fields ⟨[.ref 42, .ref (X.1 + 186)]⟩ }) :: (lexLed (wf w b) X (ln) (tl) (p) (tp) [] (ep) ++ r)) ((n + 189)) → cA w b (arnd A₀ κ) (forOf (gtFor (wf w b).params) (n + 188) (envAt (wf w b).params 49 (n + 186) gtQual)) (endK (Bw w b h₀) A₀ R κ) (sh h' gl dr t' os)) :
  cA w b A₀ (Code.call (.ref 49) ⟨[.ref (X.lx + 186)], []⟩) R (sh h gl dr t os) := by
 exact code_run (qs := (gS_q w b X ln tl p tp ep n t r gl)) O hA  (aC trivial <| aN) (fine_cut (o := gS w b X ln tl p tp ep n t r gl) (is := [2, 0, 1, 3, 4, 5, 6, 7, 8, 9, 10, 11, 12]) (d := 13) (Vw.Is.eq (by refine Bool.rec ?_ ?_ b <;> and_intros <;> kernel_rfl)) rfl (next _ rfl)) S₀
end
section
variable {h₀ : HS} {w : World} {b : Bool} (O : (Bw w b h₀).Ok) {A₀ : Around} (hA : AOk A₀ 140) {R : Result → Shared → Prop} {dr : Drawn} {os : OsState} {h : Heap}
include O hA
theorem lQ_r_t {gl : List GenState} {it fr : Nat} {n' t' : Nat} {v : Value} {r2 : Led} {κ : RK} (hκ : κ = kgQ w b it fr) {m : Nat} (hl : κ.rlen = m + 1) (hd : depOk A₀ κ)  (S₀ : St (Bw w b h₀) h (r2) (n' + 186))
  (next : ∀ h' t', St (Bw w b h₀) h' (r2) ((n' + 186)) → R (.ok (.ret ((v)))) (sh h' gl dr t' os)) :
  endK (Bw w b h₀) A₀ R κ (.ok (.ret v)) (sh h gl dr t' os) := by
 exact rest_run (f := 6) (ls := []) (qs := []) O hA hκ hl hd aN (fine_done (is := []) (d := 0) (Vw.Is.eq (by refine Bool.rec ?_ ?_ b <;> and_intros <;> kernel_rfl)) rfl next) S₀
theorem lU_r_t {gl : List GenState} {it fr : Nat} {n' t' : Nat} {v : Value} {r2 : Led} {κ : RK} (hκ : κ = kgU w b it fr) {m : Nat} (hl : κ.rlen = m + 1) (hd : depOk A₀ κ)  (S₀ : St (Bw w b h₀) h (r2) (n' + 186))
  (next : ∀ h' t', St (Bw w b h₀) h' (r2) ((n' + 186)) → R (.ok (.ret ((v)))) (sh h' gl dr t' os)) :
  endK (Bw w b h₀) A₀ R κ (.ok (.ret v)) (sh h gl dr t' os) := by
 exact rest_run (f := 6) (ls := []) (qs := []) O hA hκ hl hd aN (fine_done (is := []) (d := 0) (Vw.Is.eq (by refine Bool.rec ?_ ?_ b <;> and_intros <;> kernel_rfl)) rfl next) S₀
theorem lU_d_t {gl : List GenState} {it fr : Nat} {n' t' : Nat} {r2 : Led} {κ : RK} (hκ : κ = kgU w b it fr) {m : Nat} (hl : κ.rlen = m + 1) (hd : depOk A₀ κ)  (S₀ : St (Bw w b h₀) h ((it + 186, itE) :: r2) (n' + 186))
  (next : ∀ h' t', St (Bw w b h₀) h' ((it + 186, itE) :: r2) ((n' + 188)) → R (.ok PySem.Flow.next) (sh h' gl dr t' os)) :
  endK (Bw w b h₀) A₀ R κ (.ok .next) (sh h gl dr t' os) := by
 exact rest_run (f := 20) (ls := [1, 1, 1, 1]) (qs := []) O hA hκ hl hd aN (fine_done (is := [2]) (d := 3) (Vw.Is.eq (by refine Bool.rec ?_ ?_ b <;> and_intros <;> kernel_rfl)) rfl next) S₀
theorem lOAz_d_t {X : LX} {ln tl p tp ep n t : Nat} {r : Led} {gl : List GenState} {F : FR} {k2 tt : Nat} {n' t' : Nat} {r2 : Led} {κ : RK} (hκ : κ = (lOAz w b X ln tl p tp ep n t r gl F k2 tt).kont) (hd : depOk A₀ κ)  (S₀ : St (Bw w b h₀) h ((F.it + 186, itO F.mt F.ts) :: (F.mt + 186, mthO X.lx) :: r2) (n' + 186))
  (next : ∀ h' t', St (Bw w b h₀) h' (r2) ((n' + 188)) → R (.ok PySem.Flow.next) (sh h' gl dr t' os)) :
  Mns (Bw w b h₀) A₀ R κ.rest κ.code (ciStop (.ref (F.it + 186))) (sh h gl dr t' os) := by
 exact tree_run (f := 21) (ls := [1, 2, 0, 1, 1, 1, 1, 1, 1, 1]) (qs := []) O hA hκ hd aN (fine_done (is := []) (d := 4) (Vw.Is.eq (by refine Bool.rec ?_ ?_ b <;> and_intros <;> kernel_rfl)) rfl next) S₀
theorem lUz_d_t {X : LX} {ln tl p tp ep n t : Nat} {r : Led} {gl : List GenState} {F : FR} {k2 tt : Nat} {k4 tc : Nat} {ch : Str} {tok : Str} {n' t' : Nat} {r2 : Led} {κ : RK} (hκ : κ = (lUz w b X ln tl p tp ep n t r gl F k2 tt k4 tc ch tok).kont) (hd : depOk A₀ κ)  (S₀ : St (Bw w b h₀) h ((F.it + 186, itO F.mt F.ts) :: (F.mt + 186, mthO X.lx) :: r2) (n' + 186))
  (next : ∀ h' t', St (Bw w b h₀) h' ((F.it + 186, { cls := .type "callable_iterator", dict := none, data := .fields ⟨[.none, .none, .bool true]⟩ }) :: r2) ((n' + 188)) → R (.ok PySem.Flow.next) (sh h' gl dr t' os)) :
  Mns (Bw w b h₀) A₀ R κ.rest κ.code (ciStop (.ref (F.it + 186))) (sh h gl dr t' os) := by
 exact tree_run (f := 21) (ls := [1, 2, 0, 1, 1, 1, 1, 1, 1, 1]) (qs := []) O hA hκ hd aN (fine_done (is := [2]) (d := 4) (Vw.Is.eq (by refine Bool.rec ?_ ?_ b <;> and_intros <;> kernel_rfl)) rfl next) S₀
theorem gS_r_t {X : LX} {ln tl p tp ep n t : Nat} {r : Led} {gl : List GenState} {n' t' : Nat} {v : Value} {r2 : Led} {κ : RK} (hκ : κ = (gS w b X ln tl p tp ep n t r gl).kont) {m : Nat} (hl : κ.rlen = m + 1) (hd : depOk A₀ κ)  (S₀ : St (Bw w b h₀) h (r2) (n' + 186))
  (next : ∀ h' t', St (Bw w b h₀) h' (r2) ((n' + 186)) → R (.ok (.ret ((v)))) (sh h' gl dr t' os)) :
  endK (Bw w b h₀) A₀ R κ (.ok (.ret v)) (sh h gl dr t' os) := by
 exact rest_run (f := 6) (ls := []) (qs := []) O hA hκ hl hd aN (fine_done (is := []) (d := 0) (Vw.Is.eq (by refine Bool.rec ?_ ?_ b <;> and_intros <;> kernel_rfl)) rfl next) S₀
theorem gS_d_t {X : LX} {ln tl p tp ep n t : Nat} {r : Led} {gl : List GenState} {n' t' : Nat} {r2 : Led} {k2 tt e : Nat} {ext : List DictEntry} {tok : Str} {κ : RK} (hκ : κ = (gS w b X ln tl p tp ep n t r gl).kont) {m : Nat} (hl : κ.rlen = m + 1) (hd : depOk A₀ κ)  (S₀ : St (Bw w b h₀) h ((n + 186, frameO e (en (wf w b) c_self t (.ref (X.lx + 186)) :: en (wf w b) [116, 111, 107, 101, 110] k2 (.str tok tt) :: ext)) :: r2) (n' + 186))
  (next : ∀ h' t', St (Bw w b h₀) h' (r2) ((n' + 186)) → R (.ok (.ret (.str (tok) tt))) (sh h' gl dr t' os)) :
  endK (Bw w b h₀) A₀ R κ (.ok .next) (sh h gl dr t' os) := by
 exact rest_run (f := 9) (ls := [1]) (qs := []) O hA hκ hl hd aN (fine_done (is := []) (d := 1) (Vw.Is.eq (by refine Bool.rec ?_ ?_ b <;> and_intros <;> kernel_rfl)) rfl next) S₀
end
theorem lOAz_k (w : World) (b : Bool) (X : LX) (ln tl p tp ep n t : Nat) (r : Led) (gl : List GenState) (F : FR) (k2 tt u : Nat) : (lOAz w b X ln tl p tp ep n t r gl F k2 tt).kont.fn (.ok (.ret (.str (S []) u))) = ciAfter (.ref (F.it + 186)) (.str (S []) u) := by cases b <;> kernel_rfl
theorem lUz_k (w : World) (b : Bool) (X : LX) (ln tl p tp ep n t : Nat) (r : Led) (gl : List GenState) (F : FR) (k2 tt k4 tc : Nat) (ch tok : Str) (u : Nat) : (lUz w b X ln tl p tp ep n t r gl F k2 tt k4 tc ch tok).kont.fn (.ok (.ret (.str (S []) u))) = ciAfter (.ref (F.it + 186)) (.str (S []) u) := by cases b <;> kernel_rfl
theorem St.sub {B : Base} {h : Heap} {l l' : Led} {n : Nat} (S : St B h l n) (hs : List.Sublist l' l) : St B h l' n :=
 S.part (fun _ hp => hs.subset hp) ((hs.map _).nodup S.nodup)
theorem St.perm {B : Base} {h : Heap} {l l' : Led} {n : Nat} (S : St B h l n) (hs : List.Perm l' l) : St B h l' n :=
 S.part (fun _ hp => hs.subset hp) (((hs.map _).nodup_iff).mpr S.nodup)
theorem St.tl {B : Base} {h : Heap} {x : Addr × Obj} {l : Led} {n : Nat} (S : St B h (x :: l) n) : St B h l n := S.sub (List.sublist_cons_self _ _)
theorem S_app (a b : List Nat) : S a ++ S b = S (a ++ b) := by
 show (⟨(⟨a⟩ : Array Nat) ++ ⟨b⟩⟩ : Str) = ⟨⟨a ++ b⟩⟩
 simp
noncomputable def cnt10 (l : List Nat) : Nat := (l.filter (fun c => Nat.beq c 10)).length
theorem cnt10_cons (c : Nat) (l : List Nat) : cnt10 (c :: l) = (if c = 10 then 1 else 0) + cnt10 l := by
 unfold cnt10
 by_cases h : c = 10
 ·subst h
  simp [List.filter]
  lia
 ·have : Nat.beq c 10 = false := by
   cases q : Nat.beq c 10 with
   | false => rfl
   | true => exact absurd (Nat.eq_of_beq_eq_true q) h
  simp [List.filter, this, h]
theorem cnt10_app (a b : List Nat) : cnt10 (a ++ b) = cnt10 a + cnt10 b := by
 unfold cnt10
 simp
theorem drop_tl {l : List Nat} {p c : Nat} {rs : List Nat} (h : l.drop p = c :: rs) : l.drop (p + 1) = rs := by
 rw [← List.drop_drop, h]
 rfl
noncomputable def isWs (c : Nat) : Bool := Nat.beq c 9 || Nat.beq c 10 || Nat.beq c 13 || Nat.beq c 32
noncomputable def isLet (c : Nat) : Bool := Nat.ble 97 c && Nat.ble c 102
theorem ws_occ {c : Nat} (h : isWs (c + 1) = true) : (!(Builtin.Str.occurrences (S [10, 9, 13, 32]) (S [c + 1]) 0 (S [10, 9, 13, 32]).length 1).isEmpty) = true := by
 unfold isWs at h
 simp only [Bool.or_eq_true] at h
 rcases h with ((h | h) | h) | h <;> (have := Nat.eq_of_beq_eq_true h; rw [this]; decide +kernel)
theorem let_cases {c : Nat} (h : isLet (c + 1) = true) : c = 96 ∨ c = 97 ∨ c = 98 ∨ c = 99 ∨ c = 100 ∨ c = 101 := by
 unfold isLet at h
 obtain ⟨h1, h2⟩ := Bool.and_eq_true_iff.mp h
 have h1 := Nat.le_of_ble_eq_true h1
 have h2 := Nat.le_of_ble_eq_true h2
 lia
theorem let_occ {c : Nat} (h : isLet (c + 1) = true) : (!(Builtin.Str.occurrences (S [10, 9, 13, 32]) (S [c + 1]) 0 (S [10, 9, 13, 32]).length 1).isEmpty) = false := by
 rcases let_cases h with rfl | rfl | rfl | rfl | rfl | rfl <;> decide +kernel
section
variable {w : World} {b : Bool} {h₀ : HS} (O : (Bw w b h₀).Ok) {dr : Drawn} {os : OsState} {X : LX} {gl : List GenState} {ep : Nat} {r : Led}
noncomputable def LexEnd (w : World) (b : Bool) (h₀ : HS) (dr : Drawn) (os : OsState) (X : LX) (gl : List GenState) (ep : Nat) (r : Led) (R : Result → Shared → Prop) (p ln : Nat) (tok : Str) : Prop :=
 ∀ h' n' t' tl' tp' tt, St (Bw w b h₀) h' (lexLed (wf w b) X ln tl' p tp' [] ep ++ r) (n' + 186) → R (.ok (.ret (.str tok tt))) (sh h' gl dr t' os)
noncomputable def LexNext (w : World) (b : Bool) (h₀ : HS) (dr : Drawn) (os : OsState) (X : LX) (gl : List GenState) (ep : Nat) (r : Led) (F : FR) (R : Result → Shared → Prop) (p ln : Nat) (tok : Str) : Prop :=
 ∀ h' n' t' tl' tp' k2 tt e ext, St (Bw w b h₀) h' ((F.fr + 186, frameO e (en (wf w b) c_self F.k1 (.ref (X.lx + 186)) :: en (wf w b) [116, 111, 107, 101, 110] k2 (.str tok tt) :: ext)) :: (F.it + 186, itE) :: (lexLed (wf w b) X ln tl' p tp' [] ep ++ r)) (n' + 186) →
  R (.ok .next) (sh h' gl dr t' os)
include O
theorem q_end {A₀ : Around} (hA : AOk A₀ 140) {R : Result → Shared → Prop} {F : FR} {k2 tt k4 tc : Nat} {tok ch : Str} {ln tl p tp n t : Nat} {rest : List Nat} {h : Heap}
  (hd : X.text.cps.toList.drop p = 34 :: rest) (hl : 2 ≤ X.text.length)
  (S₀ : St (Bw w b h₀) h ((F.fr + 186, frB (wf w b) F X.lx k2 tt k4 tc tok ch) :: (F.it + 186, itO F.mt F.ts) :: (F.mt + 186, mthO X.lx) :: (lexLed (wf w b) X ln tl p tp [] ep ++ r)) (n + 186))
  (fin : LexEnd w b h₀ dr os X gl ep r R (p + 1) ln tok) : cA w b A₀ (loopQ (wf w b).params F.it F.fr) R (sh h gl dr t os) :=
 lQz_t O hA hd hl S₀ fun h' t' S' => fin h' (n + 3) t' _ _ _ S'.tl.tl.tl
theorem q_let {A₀ : Around} (hA : AOk A₀ 140) {R : Result → Shared → Prop} {F : FR} {k2 tt k4 tc : Nat} {ch : Str} {a c : Nat} {ln tl p tp n t : Nat} {rest : List Nat} {h : Heap}
  (hd : X.text.cps.toList.drop p = (c + 1) :: 34 :: rest) (hl : 2 ≤ X.text.length) (hc : isLet (c + 1) = true)
  (S₀ : St (Bw w b h₀) h ((F.fr + 186, frB (wf w b) F X.lx k2 tt k4 tc (S [a]) ch) :: (F.it + 186, itO F.mt F.ts) :: (F.mt + 186, mthO X.lx) :: (lexLed (wf w b) X ln tl p tp [] ep ++ r)) (n + 186))
  (fin : LexEnd w b h₀ dr os X gl ep r R (p + 2) ln (S [a, c + 1])) : cA w b A₀ (loopQ (wf w b).params F.it F.fr) R (sh h gl dr t os) :=
 lQc1_t O hA hd hl (by have := let_cases hc; lia) (by have := let_cases hc; lia) (by have := let_cases hc; lia) S₀ fun h' t' S' =>
  q_end (n := n + 3) O hA (drop_tl hd) hl S' fin
theorem q_word {A₀ : Around} (hA : AOk A₀ 140) {R : Result → Shared → Prop} {F : FR} {k2 tt k4 tc : Nat} {ch : Str} {n0 c : Nat} {ln tl p tp n t : Nat} {rest : List Nat} {h : Heap}
  (hd : X.text.cps.toList.drop p = (if n0 + 1 = 34 ∨ n0 + 1 = 92 then [92, n0 + 1] else [n0 + 1]) ++ (c + 1) :: 34 :: rest) (hl : 2 ≤ X.text.length) (hc : isLet (c + 1) = true)
  (S₀ : St (Bw w b h₀) h ((F.fr + 186, frB (wf w b) F X.lx k2 tt k4 tc (S []) ch) :: (F.it + 186, itO F.mt F.ts) :: (F.mt + 186, mthO X.lx) :: (lexLed (wf w b) X ln tl p tp [] ep ++ r)) (n + 186))
  (fin : LexEnd w b h₀ dr os X gl ep r R (p + (if n0 + 1 = 34 ∨ n0 + 1 = 92 then 4 else 3)) (ln + (if n0 + 1 = 10 then 1 else 0)) (S [n0 + 1, c + 1])) : cA w b A₀ (loopQ (wf w b).params F.it F.fr) R (sh h gl dr t os) := by
 by_cases he : n0 + 1 = 34 ∨ n0 + 1 = 92
 ·have h10 : n0 + 1 ≠ 10 := by lia
  rw [if_pos he] at hd fin
  rw [if_neg h10] at fin
  exact lQe0_t O hA hd hl (drop_tl hd) h10 S₀ fun h' t' S' => q_let (n := n + 6) O hA (drop_tl (drop_tl hd)) hl hc S' fin
 ·rw [if_neg he] at hd fin
  by_cases h10 : n0 + 1 = 10
  ·have : n0 = 9 := by lia
   subst this
   exact lQn0_t O hA hd hl S₀ fun h' t' S' => q_let (n := n + 3) O hA (drop_tl hd) hl hc S' fin
  ·rw [if_neg h10] at fin
   exact lQc0_t O hA hd hl h10 (by lia) (by lia) S₀ fun h' t' S' => q_let (n := n + 3) O hA (drop_tl hd) hl hc S' fin
theorem u_end {A₀ : Around} (hA : AOk A₀ 150) {R : Result → Shared → Prop} {F : FR} {k2 tt k4 tc : Nat} {tok ch : Str} {ln tl p tp n t : Nat} {rest : List Nat} {h : Heap}
  (hd : X.text.cps.toList.drop p = rest) (hp : p ≤ X.text.length) (hl : 2 ≤ X.text.length) (hw : ∀ c ∈ rest.head?, isWs c = true)
  (S₀ : St (Bw w b h₀) h ((F.fr + 186, frB (wf w b) F X.lx k2 tt k4 tc tok ch) :: (F.it + 186, itO F.mt F.ts) :: (F.mt + 186, mthO X.lx) :: (lexLed (wf w b) X ln tl p tp [] ep ++ r)) (n + 186))
  (fin : rest ≠ [] → LexEnd w b h₀ dr os X gl ep r R (p + 1) (ln + cnt10 (rest.take 1)) tok) (nxt : rest = [] → LexNext w b h₀ dr os X gl ep r F R p ln tok) :
  cA w b A₀ (loopU (wf w b).params F.it F.fr) R (sh h gl dr t os) := by
 cases rest with
 | nil =>
  have hpe : p = X.text.length := by
   have := congrArg List.length hd
   simp [Str.length] at this hp ⊢
   lia
  have nxt := nxt rfl
  refine lUz_t O (hA.le (by lia)) S₀ fun κ hκ hdp hlen hlen2 h' t' S' => ?_
  have hA2 : AOk (arnd A₀ κ) 140 := AOk.over (d := 140) (by rw [hlen2]; exact hA) hdp
  refine lRe_t O hA2 hpe hl (S'.perm (List.perm_middle (l₁ := _ :: _ :: lexLed (wf w b) X ln tl p tp [] ep))) fun h' t' S' => ?_
  refine ci_rest (it := F.it) (m := F.mt) (u := F.ts) hlen (by rw [hκ]; exact lUz_k ..) (S'.led _ (.head _)) ?_
  exact lUz_d_t (n' := n + 3) O (hA.le (by lia)) hκ hdp S' fun h' t' S' => nxt h' (n + 5) t' _ _ _ _ _ _ (S'.perm (List.perm_middle (l₁ := _ :: lexLed (wf w b) X ln tl p _ [] ep)).symm)
 | cons c rest =>
  have hc : isWs c = true := hw c rfl
  have fin := fin (by simp)
  by_cases h10 : c = 10
  ·subst h10
   refine lUn_t O (hA.le (by lia)) hd hl S₀ fun h' t' S' => fin h' (n + 3) t' _ _ _ S'.tl.tl.tl
  ·cases c with
   | zero => cases hc
   | succ c =>
    have e : cnt10 ((List.cons (c + 1) rest).take 1) = 0 := by simp [cnt10_cons, h10, cnt10]
    rw [e] at fin
    exact lUw_t O (hA.le (by lia)) hd hl h10 (ws_occ hc) S₀ fun h' t' S' => fin h' (n + 3) t' _ _ _ S'.tl.tl.tl
theorem u_let {A₀ : Around} (hA : AOk A₀ 150) {R : Result → Shared → Prop} {F : FR} {k2 tt k4 tc : Nat} {ch : Str} {a c : Nat} {ln tl p tp n t : Nat} {rest : List Nat} {h : Heap}
  (hd : X.text.cps.toList.drop p = (c + 1) :: rest) (hl : 2 ≤ X.text.length) (hc : isLet (c + 1) = true) (hw : ∀ c ∈ rest.head?, isWs c = true)
  (S₀ : St (Bw w b h₀) h ((F.fr + 186, frB (wf w b) F X.lx k2 tt k4 tc (S [a]) ch) :: (F.it + 186, itO F.mt F.ts) :: (F.mt + 186, mthO X.lx) :: (lexLed (wf w b) X ln tl p tp [] ep ++ r)) (n + 186))
  (fin : rest ≠ [] → LexEnd w b h₀ dr os X gl ep r R (p + 2) (ln + cnt10 (rest.take 1)) (S [a, c + 1])) (nxt : rest = [] → LexNext w b h₀ dr os X gl ep r F R (p + 1) ln (S [a, c + 1])) :
  cA w b A₀ (loopU (wf w b).params F.it F.fr) R (sh h gl dr t os) :=
 lUc1_t O (hA.le (by lia)) hd hl (by have := let_cases hc; lia) (let_occ hc) (by have := let_cases hc; lia) S₀ fun h' t' S' =>
  u_end (n := n + 3) O hA (drop_tl hd) (by
   have := congrArg List.length hd
   simp [Str.length] at this ⊢
   lia) hl hw S' fin nxt
noncomputable def wordT (qd : Bool) (n0 n1 : Nat) : List Nat := match qd with
 | true => 34 :: ((if n0 = 34 ∨ n0 = 92 then [92, n0] else [n0]) ++ [n1, 34])
 | false => [92, n0, n1]
noncomputable def readT (qd : Bool) (n0 n1 : Nat) (rest : List Nat) : List Nat := match qd with
 | true => wordT true n0 n1
 | false => wordT false n0 n1 ++ rest.take 1
end
section
variable {w : World} {b : Bool} {h₀ : HS} (O : (Bw w b h₀).Ok) {dr : Drawn} {os : OsState} {X : LX} {gl : List GenState} {ep : Nat} {r : Led}
include O
theorem oA_word {A₀ : Around} (hA : AOk A₀ 160) {R : Result → Shared → Prop} {F : FR} {k2 tt : Nat} {qd : Bool} {n0 c : Nat} {ln tl p tp n t : Nat} {rest : List Nat} {h : Heap}
  (hd : X.text.cps.toList.drop p = wordT qd (n0 + 1) (c + 1) ++ rest) (hl : 2 ≤ X.text.length) (hc : isLet (c + 1) = true) (hw : qd = false → ∀ c ∈ rest.head?, isWs c = true)
  (S₀ : St (Bw w b h₀) h ((F.fr + 186, frA (wf w b) F X.lx k2 tt (S [])) :: (F.it + 186, itO F.mt F.ts) :: (F.mt + 186, mthO X.lx) :: (lexLed (wf w b) X ln tl p tp [] ep ++ r)) (n + 186))
  (fin : LexEnd w b h₀ dr os X gl ep r R (p + (readT qd (n0 + 1) (c + 1) rest).length) (ln + cnt10 (readT qd (n0 + 1) (c + 1) rest)) (S [n0 + 1, c + 1]))
  (nxt : LexNext w b h₀ dr os X gl ep r F R (p + (readT qd (n0 + 1) (c + 1) rest).length) (ln + cnt10 (readT qd (n0 + 1) (c + 1) rest)) (S [n0 + 1, c + 1])) :
  cA w b A₀ (loopO (wf w b).params F.it F.fr) R (sh h gl dr t os) := by
 have lc := let_cases hc
 have hc10 : c + 1 ≠ 10 := by lia
 cases qd with
 | true =>
  have hd' : X.text.cps.toList.drop p = 34 :: ((if n0 + 1 = 34 ∨ n0 + 1 = 92 then [92, n0 + 1] else [n0 + 1]) ++ (c + 1) :: 34 :: rest) := by
   rw [hd]
   simp only [wordT, List.cons_append, List.append_assoc, List.nil_append]
  have e1 : (readT true (n0 + 1) (c + 1) rest).length = 1 + (if n0 + 1 = 34 ∨ n0 + 1 = 92 then 4 else 3) := by
   simp only [readT, wordT]
   split <;> simp
  have e2 : cnt10 (readT true (n0 + 1) (c + 1) rest) = (if n0 + 1 = 10 then 1 else 0) := by
   have e0 : cnt10 ([] : List Nat) = 0 := rfl
   simp only [readT, wordT, cnt10_cons, cnt10_app, if_neg hc10, e0]
   split
   ·rename_i he
    have : n0 + 1 ≠ 10 := by lia
    simp [cnt10_cons, this, e0]
    lia
   ·by_cases h10 : n0 + 1 = 10
    ·have : n0 = 9 := by lia
     subst this
     simp [cnt10_cons, e0]
    ·have : ¬ n0 = 9 := by lia
     simp [cnt10_cons, e0, this]
     split <;> simp [cnt10_cons, e0, this]
  rw [e1, e2, ← Nat.add_assoc] at fin
  refine lOAq_t O (hA.le (by lia)) hd' hl S₀ fun κ hκ hdp h1 h2 h' t' S' => ?_
  refine q_word (n := n + 3) O (A₀ := arnd A₀ κ) (AOk.over (d := 140) (by rw [h2]; exact hA.le (by lia)) hdp) (drop_tl hd') hl hc S' ?_
  exact fun h' n' t' tl' tp' tt S => lQ_r_t O (hA.le (by lia)) hκ h1 hdp S fun h' t' S => fin h' n' t' tl' tp' tt S
 | false =>
  have hd' : X.text.cps.toList.drop p = 92 :: (n0 + 1) :: (c + 1) :: rest := by rw [hd]; simp [wordT]
  have e0 : (readT false (n0 + 1) (c + 1) rest) = 92 :: (n0 + 1) :: (c + 1) :: rest.take 1 := by simp [readT, wordT]
  rw [e0] at fin nxt
  have hw := hw rfl
  by_cases h10 : n0 + 1 = 10
  ·have : n0 = 9 := by lia
   subst this
   refine lOAm_t O (hA.le (by lia)) hd' hl (drop_tl hd') S₀ fun κ hκ hdp h1 h2 h' t' S' => ?_
   refine u_let (n := n + 6) O (A₀ := arnd A₀ κ) (AOk.over (d := 150) (by rw [h2]; exact hA.le (by lia)) hdp) (drop_tl (drop_tl hd')) hl hc hw S' ?_ ?_
   ·intro hr h' n' t' tl' tp' tt S
    refine lU_r_t O (hA.le (by lia)) hκ h1 hdp S fun h' t' S => fin h' n' t' tl' tp' tt ?_
    have e : ln + cnt10 (92 :: (9 + 1) :: (c + 1) :: rest.take 1) = ln + 1 + cnt10 (rest.take 1) := by simp [cnt10_cons, hc10]; lia
    have e3 : p + (92 :: (9 + 1) :: (c + 1) :: rest.take 1).length = p + 2 + 2 := by
     cases rest with
     | nil => exact absurd rfl hr
     | cons => simp
    rw [e, e3]
    exact S
   ·intro hr h' n' t' tl' tp' k2 tt e ext S
    subst hr
    refine lU_d_t O (hA.le (by lia)) hκ h1 hdp (S.perm (List.Perm.swap ..)) fun h' t' S => nxt h' (n' + 2) t' tl' tp' k2 tt e ext ?_
    have e : ln + cnt10 (92 :: (9 + 1) :: (c + 1) :: ([] : List Nat).take 1) = ln + 1 := by simp [cnt10_cons, hc10, cnt10]
    have e3 : p + (92 :: (9 + 1) :: (c + 1) :: ([] : List Nat).take 1).length = p + 1 + 1 + 1 := by simp
    rw [e, e3]
    exact S.perm (List.Perm.swap ..)
  ·refine lOAe_t O (hA.le (by lia)) hd' hl (drop_tl hd') h10 S₀ fun κ hκ hdp h1 h2 h' t' S' => ?_
   refine u_let (n := n + 6) O (A₀ := arnd A₀ κ) (AOk.over (d := 150) (by rw [h2]; exact hA.le (by lia)) hdp) (drop_tl (drop_tl hd')) hl hc hw S' ?_ ?_
   ·intro hr h' n' t' tl' tp' tt S
    refine lU_r_t O (hA.le (by lia)) hκ h1 hdp S fun h' t' S => fin h' n' t' tl' tp' tt ?_
    have e : ln + cnt10 (92 :: (n0 + 1) :: (c + 1) :: rest.take 1) = ln + cnt10 (rest.take 1) := by simp [cnt10_cons, hc10, h10]
    have e3 : p + (92 :: (n0 + 1) :: (c + 1) :: rest.take 1).length = p + 2 + 2 := by
     cases rest with
     | nil => exact absurd rfl hr
     | cons => simp
    rw [e, e3]
    exact S
   ·intro hr h' n' t' tl' tp' k2 tt e ext S
    subst hr
    refine lU_d_t O (hA.le (by lia)) hκ h1 hdp (S.perm (List.Perm.swap ..)) fun h' t' S => nxt h' (n' + 2) t' tl' tp' k2 tt e ext ?_
    have e : ln + cnt10 (92 :: (n0 + 1) :: (c + 1) :: ([] : List Nat).take 1) = ln := by simp [cnt10_cons, hc10, h10, cnt10]
    have e3 : p + (92 :: (n0 + 1) :: (c + 1) :: ([] : List Nat).take 1).length = p + 1 + 1 + 1 := by simp
    rw [e, e3]
    exact S.perm (List.Perm.swap ..)
theorem oB_word {A₀ : Around} (hA : AOk A₀ 160) {R : Result → Shared → Prop} {F : FR} {k2 tt k4 tc : Nat} {ch : Str} {qd : Bool} {n0 c : Nat} {ln tl p tp n t : Nat} {rest : List Nat} {h : Heap}
  (hd : X.text.cps.toList.drop p = wordT qd (n0 + 1) (c + 1) ++ rest) (hl : 2 ≤ X.text.length) (hc : isLet (c + 1) = true) (hw : qd = false → ∀ c ∈ rest.head?, isWs c = true)
  (S₀ : St (Bw w b h₀) h ((F.fr + 186, frB (wf w b) F X.lx k2 tt k4 tc (S []) ch) :: (F.it + 186, itO F.mt F.ts) :: (F.mt + 186, mthO X.lx) :: (lexLed (wf w b) X ln tl p tp [] ep ++ r)) (n + 186))
  (fin : LexEnd w b h₀ dr os X gl ep r R (p + (readT qd (n0 + 1) (c + 1) rest).length) (ln + cnt10 (readT qd (n0 + 1) (c + 1) rest)) (S [n0 + 1, c + 1]))
  (nxt : LexNext w b h₀ dr os X gl ep r F R (p + (readT qd (n0 + 1) (c + 1) rest).length) (ln + cnt10 (readT qd (n0 + 1) (c + 1) rest)) (S [n0 + 1, c + 1])) :
  cA w b A₀ (loopO (wf w b).params F.it F.fr) R (sh h gl dr t os) := by
 have lc := let_cases hc
 have hc10 : c + 1 ≠ 10 := by lia
 cases qd with
 | true =>
  have hd' : X.text.cps.toList.drop p = 34 :: ((if n0 + 1 = 34 ∨ n0 + 1 = 92 then [92, n0 + 1] else [n0 + 1]) ++ (c + 1) :: 34 :: rest) := by
   rw [hd]
   simp only [wordT, List.cons_append, List.append_assoc, List.nil_append]
  have e1 : (readT true (n0 + 1) (c + 1) rest).length = 1 + (if n0 + 1 = 34 ∨ n0 + 1 = 92 then 4 else 3) := by
   simp only [readT, wordT]
   split <;> simp
  have e2 : cnt10 (readT true (n0 + 1) (c + 1) rest) = (if n0 + 1 = 10 then 1 else 0) := by
   have e0 : cnt10 ([] : List Nat) = 0 := rfl
   simp only [readT, wordT, cnt10_cons, cnt10_app, if_neg hc10, e0]
   split
   ·rename_i he
    have : n0 + 1 ≠ 10 := by lia
    simp [cnt10_cons, this, e0]
    lia
   ·by_cases h10 : n0 + 1 = 10
    ·have : n0 = 9 := by lia
     subst this
     simp [cnt10_cons, e0]
    ·have : ¬ n0 = 9 := by lia
     simp [cnt10_cons, e0, this]
     split <;> simp [cnt10_cons, e0, this]
  rw [e1, e2, ← Nat.add_assoc] at fin
  refine lOBq_t O (hA.le (by lia)) hd' hl S₀ fun κ hκ hdp h1 h2 h' t' S' => ?_
  refine q_word (n := n + 3) O (A₀ := arnd A₀ κ) (AOk.over (d := 140) (by rw [h2]; exact hA.le (by lia)) hdp) (drop_tl hd') hl hc S' ?_
  exact fun h' n' t' tl' tp' tt S => lQ_r_t O (hA.le (by lia)) hκ h1 hdp S fun h' t' S => fin h' n' t' tl' tp' tt S
 | false =>
  have hd' : X.text.cps.toList.drop p = 92 :: (n0 + 1) :: (c + 1) :: rest := by rw [hd]; simp [wordT]
  have e0 : (readT false (n0 + 1) (c + 1) rest) = 92 :: (n0 + 1) :: (c + 1) :: rest.take 1 := by simp [readT, wordT]
  rw [e0] at fin nxt
  have hw := hw rfl
  by_cases h10 : n0 + 1 = 10
  ·have : n0 = 9 := by lia
   subst this
   refine lOBm_t O (hA.le (by lia)) hd' hl (drop_tl hd') S₀ fun κ hκ hdp h1 h2 h' t' S' => ?_
   refine u_let (n := n + 6) O (A₀ := arnd A₀ κ) (AOk.over (d := 150) (by rw [h2]; exact hA.le (by lia)) hdp) (drop_tl (drop_tl hd')) hl hc hw S' ?_ ?_
   ·intro hr h' n' t' tl' tp' tt S
    refine lU_r_t O (hA.le (by lia)) hκ h1 hdp S fun h' t' S => fin h' n' t' tl' tp' tt ?_
    have e : ln + cnt10 (92 :: (9 + 1) :: (c + 1) :: rest.take 1) = ln + 1 + cnt10 (rest.take 1) := by simp [cnt10_cons, hc10]; lia
    have e3 : p + (92 :: (9 + 1) :: (c + 1) :: rest.take 1).length = p + 2 + 2 := by
     cases rest with
     | nil => exact absurd rfl hr
     | cons => simp
    rw [e, e3]
    exact S
   ·intro hr h' n' t' tl' tp' k2 tt e ext S
    subst hr
    refine lU_d_t O (hA.le (by lia)) hκ h1 hdp (S.perm (List.Perm.swap ..)) fun h' t' S => nxt h' (n' + 2) t' tl' tp' k2 tt e ext ?_
    have e : ln + cnt10 (92 :: (9 + 1) :: (c + 1) :: ([] : List Nat).take 1) = ln + 1 := by simp [cnt10_cons, hc10, cnt10]
    have e3 : p + (92 :: (9 + 1) :: (c + 1) :: ([] : List Nat).take 1).length = p + 1 + 1 + 1 := by simp
    rw [e, e3]
    exact S.perm (List.Perm.swap ..)
  ·refine lOBe_t O (hA.le (by lia)) hd' hl (drop_tl hd') h10 S₀ fun κ hκ hdp h1 h2 h' t' S' => ?_
   refine u_let (n := n + 6) O (A₀ := arnd A₀ κ) (AOk.over (d := 150) (by rw [h2]; exact hA.le (by lia)) hdp) (drop_tl (drop_tl hd')) hl hc hw S' ?_ ?_
   ·intro hr h' n' t' tl' tp' tt S
    refine lU_r_t O (hA.le (by lia)) hκ h1 hdp S fun h' t' S => fin h' n' t' tl' tp' tt ?_
    have e : ln + cnt10 (92 :: (n0 + 1) :: (c + 1) :: rest.take 1) = ln + cnt10 (rest.take 1) := by simp [cnt10_cons, hc10, h10]
    have e3 : p + (92 :: (n0 + 1) :: (c + 1) :: rest.take 1).length = p + 2 + 2 := by
     cases rest with
     | nil => exact absurd rfl hr
     | cons => simp
    rw [e, e3]
    exact S
   ·intro hr h' n' t' tl' tp' k2 tt e ext S
    subst hr
    refine lU_d_t O (hA.le (by lia)) hκ h1 hdp (S.perm (List.Perm.swap ..)) fun h' t' S => nxt h' (n' + 2) t' tl' tp' k2 tt e ext ?_
    have e : ln + cnt10 (92 :: (n0 + 1) :: (c + 1) :: ([] : List Nat).take 1) = ln := by simp [cnt10_cons, hc10, h10, cnt10]
    have e3 : p + (92 :: (n0 + 1) :: (c + 1) :: ([] : List Nat).take 1).length = p + 1 + 1 + 1 := by simp
    rw [e, e3]
    exact S.perm (List.Perm.swap ..)
theorem oB_ws {A₀ : Around} (hA : AOk A₀ 160) {R : Result → Shared → Prop} {F : FR} {qd : Bool} {n0 c : Nat} {rest : List Nat} (hl : 2 ≤ X.text.length) (hc : isLet (c + 1) = true) (hw : qd = false → ∀ c ∈ rest.head?, isWs c = true) :
  ∀ (ws : List Nat) {k2 tt k4 tc : Nat} {ch : Str} {ln tl p tp n t : Nat} {h : Heap}, (∀ c ∈ ws, isWs c = true) → X.text.cps.toList.drop p = ws ++ (wordT qd (n0 + 1) (c + 1) ++ rest) →
   St (Bw w b h₀) h ((F.fr + 186, frB (wf w b) F X.lx k2 tt k4 tc (S []) ch) :: (F.it + 186, itO F.mt F.ts) :: (F.mt + 186, mthO X.lx) :: (lexLed (wf w b) X ln tl p tp [] ep ++ r)) (n + 186) →
   LexEnd w b h₀ dr os X gl ep r R (p + ws.length + (readT qd (n0 + 1) (c + 1) rest).length) (ln + cnt10 ws + cnt10 (readT qd (n0 + 1) (c + 1) rest)) (S [n0 + 1, c + 1]) →
   LexNext w b h₀ dr os X gl ep r F R (p + ws.length + (readT qd (n0 + 1) (c + 1) rest).length) (ln + cnt10 ws + cnt10 (readT qd (n0 + 1) (c + 1) rest)) (S [n0 + 1, c + 1]) →
   cA w b A₀ (loopO (wf w b).params F.it F.fr) R (sh h gl dr t os)
 | [], _, _, _, _, _, _, _, _, _, _, _, _, _, hd, S₀, fin, nxt => oB_word O hA (by simpa using hd) hl hc hw S₀ (by simpa [cnt10] using fin) (by simpa [cnt10] using nxt)
 | a :: ws, k2, tt, k4, tc, ch, ln, tl, p, tp, n, t, h, hws, hd, S₀, fin, nxt => by
  have ha : isWs a = true := hws a (.head _)
  have e : p + (a :: ws).length = p + 1 + ws.length := by simp; lia
  by_cases h10 : a = 10
  ·subst h10
   have e2 : ln + cnt10 (10 :: ws) = ln + 1 + cnt10 ws := by rw [cnt10_cons]; simp; lia
   rw [e, e2] at fin nxt
   exact lOBn_t O (hA.le (by lia)) hd hl S₀ fun h' t' S' => oB_ws hA hl hc hw ws (n := n + 3) (fun c hc => hws c (.tail _ hc)) (drop_tl hd) S' fin nxt
  ·have e2 : ln + cnt10 (a :: ws) = ln + cnt10 ws := by rw [cnt10_cons, if_neg h10]; lia
   rw [e, e2] at fin nxt
   cases a with
   | zero => cases ha
   | succ a => exact lOBw_t O (hA.le (by lia)) hd hl h10 (ws_occ ha) S₀ fun h' t' S' => oB_ws hA hl hc hw ws (n := n + 3) (fun c hc => hws c (.tail _ hc)) (drop_tl hd) S' fin nxt
theorem oA_ws {A₀ : Around} (hA : AOk A₀ 160) {R : Result → Shared → Prop} {F : FR} {qd : Bool} {n0 c : Nat} {rest : List Nat} (hl : 2 ≤ X.text.length) (hc : isLet (c + 1) = true) (hw : qd = false → ∀ c ∈ rest.head?, isWs c = true)
  (ws : List Nat) {k2 tt : Nat} {ln tl p tp n t : Nat} {h : Heap} (hws : ∀ c ∈ ws, isWs c = true) (hd : X.text.cps.toList.drop p = ws ++ (wordT qd (n0 + 1) (c + 1) ++ rest))
  (S₀ : St (Bw w b h₀) h ((F.fr + 186, frA (wf w b) F X.lx k2 tt (S [])) :: (F.it + 186, itO F.mt F.ts) :: (F.mt + 186, mthO X.lx) :: (lexLed (wf w b) X ln tl p tp [] ep ++ r)) (n + 186))
  (fin : LexEnd w b h₀ dr os X gl ep r R (p + ws.length + (readT qd (n0 + 1) (c + 1) rest).length) (ln + cnt10 ws + cnt10 (readT qd (n0 + 1) (c + 1) rest)) (S [n0 + 1, c + 1]))
  (nxt : LexNext w b h₀ dr os X gl ep r F R (p + ws.length + (readT qd (n0 + 1) (c + 1) rest).length) (ln + cnt10 ws + cnt10 (readT qd (n0 + 1) (c + 1) rest)) (S [n0 + 1, c + 1])) :
   cA w b A₀ (loopO (wf w b).params F.it F.fr) R (sh h gl dr t os) := by
 cases ws with
 | nil => exact oA_word O hA (by simpa using hd) hl hc hw S₀ (by simpa [cnt10] using fin) (by simpa [cnt10] using nxt)
 | cons a ws =>
  have ha : isWs a = true := hws a (.head _)
  have e : p + (a :: ws).length = p + 1 + ws.length := by simp; lia
  by_cases h10 : a = 10
  ·subst h10
   have e2 : ln + cnt10 (10 :: ws) = ln + 1 + cnt10 ws := by rw [cnt10_cons]; simp; lia
   rw [e, e2] at fin nxt
   exact lOAn_t O (hA.le (by lia)) hd hl S₀ fun h' t' S' => oB_ws O hA hl hc hw ws (n := n + 3) (fun c hc => hws c (.tail _ hc)) (drop_tl hd) S' fin nxt
  ·have e2 : ln + cnt10 (a :: ws) = ln + cnt10 ws := by rw [cnt10_cons, if_neg h10]; lia
   rw [e, e2] at fin nxt
   cases a with
   | zero => cases ha
   | succ a => exact lOAw_t O (hA.le (by lia)) hd hl h10 (ws_occ ha) S₀ fun h' t' S' => oB_ws O hA hl hc hw ws (n := n + 3) (fun c hc => hws c (.tail _ hc)) (drop_tl hd) S' fin nxt
theorem gt_word {A₀ : Around} (hA : AOk A₀ 170) {R : Result → Shared → Prop} {qd : Bool} {n0 c : Nat} {rest : List Nat} (hl : 2 ≤ X.text.length) (hc : isLet (c + 1) = true) (hw : qd = false → ∀ c ∈ rest.head?, isWs c = true)
  {ws : List Nat} {ln tl p tp n t : Nat} {h : Heap} (hws : ∀ c ∈ ws, isWs c = true) (hd : X.text.cps.toList.drop p = ws ++ (wordT qd (n0 + 1) (c + 1) ++ rest))
  (S₀ : St (Bw w b h₀) h (lexLed (wf w b) X ln tl p tp [] ep ++ r) (n + 186))
  (fin : LexEnd w b h₀ dr os X gl ep r R (p + ws.length + (readT qd (n0 + 1) (c + 1) rest).length) (ln + cnt10 ws + cnt10 (readT qd (n0 + 1) (c + 1) rest)) (S [n0 + 1, c + 1])) :
  cA w b A₀ (Code.call (.ref 49) ⟨[.ref (X.lx + 186)], []⟩) R (sh h gl dr t os) := by
 refine gS_t O (hA.le (by lia)) S₀ fun κ hκ hdp h1 h2 h' t' S' => ?_
 refine oA_ws (F := ⟨n, n + 2, n + 1, t, t + 8, t + 7⟩) (n := n + 3) O (A₀ := arnd A₀ κ) (AOk.over (d := 160) (by rw [h2]; exact hA.le (by lia)) hdp) hl hc hw ws hws hd S' ?_ ?_
 ·exact fun h' n' t' tl' tp' tt S => gS_r_t O (hA.le (by lia)) hκ h1 hdp S fun h' t' S => fin h' n' t' tl' tp' tt S
 ·exact fun h' n' t' tl' tp' k2 tt e ext S => gS_d_t O (hA.le (by lia)) hκ h1 hdp S fun h' t' S => fin h' n' t' tl' tp' tt S.tl
theorem gt_end {A₀ : Around} (hA : AOk A₀ 170) {R : Result → Shared → Prop} (hl : 2 ≤ X.text.length) {ln tl p tp n t : Nat} {h : Heap} (hd : p = X.text.length)
  (S₀ : St (Bw w b h₀) h (lexLed (wf w b) X ln tl p tp [] ep ++ r) (n + 186))
  (fin : LexEnd w b h₀ dr os X gl ep r R p ln (S [])) :
  cA w b A₀ (Code.call (.ref 49) ⟨[.ref (X.lx + 186)], []⟩) R (sh h gl dr t os) := by
 refine gS_t O (hA.le (by lia)) S₀ fun κ hκ hdp h1 h2 h' t' S' => ?_
 have hA2 : AOk (arnd A₀ κ) 160 := AOk.over (d := 160) (by rw [h2]; exact hA.le (by lia)) hdp
 refine lOAz_t (F := ⟨n, n + 2, n + 1, t, t + 8, t + 7⟩) (n := n + 3) O (hA2.le (by lia)) S' fun κ₂ hκ2 hdp2 hlen hlen2 h' t' S' => ?_
 have hA3 : AOk (arnd (arnd A₀ κ) κ₂) 140 := AOk.over (d := 140) (by rw [hlen2]; exact hA2.le (by lia)) hdp2
 refine lRe_t O hA3 hd hl (S'.perm (List.perm_middle (l₁ := _ :: _ :: lexLed (wf w b) X ln tl p tp [] ep))) fun h' t' S' => ?_
 refine ci_rest (it := n + 2) (m := n + 1) hlen (by rw [hκ2]; exact lOAz_k ..) (S'.led _ (.head _)) ?_
 refine lOAz_d_t (n' := n + 6) O (hA2.le (by lia)) hκ2 hdp2 S' fun h' t' S' => ?_
 have S2 := S'.perm (List.perm_middle (l₁ := lexLed (wf w b) X ln tl p _ [] ep)).symm
 exact gS_d_t (n' := n + 8) (k2 := t + 5) (tt := t + 4) (tok := S []) (e := 3) (ext := [_]) O (hA.le (by lia)) hκ h1 hdp S2 fun h' t' S => fin h' (n + 8) t' _ _ _ S
end
theorem S_len (l : List Nat) : (S l).length = l.length := by simp [Str.length]
theorem join_S : ∀ ls : List (List Nat), Str.join (S []) (ls.map S) = S ls.flatten
 | [] => rfl
 | [x] => by simp [Str.join]
 | x :: y :: rest => by
  show S x ++ S [] ++ Str.join (S []) ((y :: rest).map S) = _
  rw [join_S (y :: rest), S_app, S_app]
  simp
theorem glued_S (ls : List (List Nat)) : Builtin.Str.glued (S []) (ls.map S) = S ls.flatten := by
 rw [StrLaws.glued_eq_join, join_S]
theorem tooLong_S (ls : List (List Nat)) (h : ls.flatten.length ≤ 1000) : Builtin.Str.tooLong ((ls.map S).toArray.foldl (· + ·.length + (S []).length) 0) = false := by
 have := joinOk_of (sep := S []) (ys := ls.map S) (by
  have e : ((ls.map S).map (·.length)).sum = ls.flatten.length := by
   rw [List.length_flatten, List.map_map]
   congr 1
  have e2 : (S []).length = 0 := rfl
  rw [e, e2]
  lia)
 unfold JoinOk at this
 rwa [Bool.not_eq_true'] at this
section
variable {prog : Program} {w : World}
theorem ora_join2 (x y : List Nat) (tx ty u a : Nat) (hl : x.length + y.length ≤ 1000) :
  OraOk prog w [(a, tupO [.str (S x) tx, .str (S y) ty])] (.call (.builtin "str.join") ⟨[.str (S []) u, .ref a], []⟩) (fun t => .str (S (x ++ y)) t) 1 := by
 intro A h gl dr t os R hn hA hR
 refine codeAny_call_builtin F.slot_str_join.plain F.entry_str_join (F.slot_str_join.check _ _ _ _ _ _ _ _ (typeIs_str _ _ _) (F.args_str_join_2 _ _) ?_)
 have hm := meets_str_join_tuple (S []) u a [(S x, tx), (S y, ty)] (tooLong_S [x, y] (by simp; lia))
 refine hm prog w A R _ ⟨⟨_, _, hn _ (.head _), rfl, rfl⟩, ?_⟩
 show (joinMade (S []) [(S x, tx), (S y, ty)]).post _ _
 have e : Builtin.Str.glued (S []) [S x, S y] = S (x ++ y) := by
  have := glued_S [x, y]
  simpa using this
 show (Made.str (Builtin.Str.glued (S []) [S x, S y])).post _ _
 rw [e]
 exact ⟨by show (S (x ++ y)).length ≤ sizeLine; rw [S_len]; simp; have : (1000 : Nat) ≤ sizeLine := by decide +kernel
           lia, hR⟩
theorem den_b {id : String} {e : Args → Sem PySem.Fin} (h : entryFor table id = some e) (args : Args) : denote table (.builtin id args) = e args := by
 show (match entryFor table id with | some b => b args | none => unsupported ((withoutEnding? id "#data").getD id)) = _
 rw [h]
theorem join_gen {A : Around} {R : Result → Shared → Prop} {s : Shared} {I g u : Nat} (hg : s.heap.IsGen I g) (hd : A.depth + 10 < recursionLimit)
  (x : codeAny (model prog w) (((A.under (bi "str.join" [.str (S []) u, .ref I])).mark none)) (bi "proto.collect" [.ref I]) (fun r s' => ∃ a ep l, r = .ok (.ret (.ref a)) ∧ s'.heap.get? a = some (listO (strValues l) ep) ∧
   Builtin.Str.tooLong ((l.map (·.1)).toArray.foldl (· + ·.length + (S []).length) 0) = false ∧ (joinMade (S []) l).post (fun v s' => R (.ok (.ret v)) s') s') s) :
  codeAny (model prog w) A (bi "str.join" [.str (S []) u, .ref I]) R s := by
 refine y_code _ _ _ _ _ _ ?_
 show wpOwn _ _ _ (denote table (.builtin "str.join" ⟨[.str (S []) u, .ref I], []⟩)) _ _ _
 rw [den_b F.entry_str_join]
 show wpOwn _ _ _ (Builtin.«str.join» ⟨[.str (S []) u, .ref I], []⟩) _ _ _
 rw [join_tree_other]
 refine wpOwn_bind (wpOwn_of_wpAny (wpAny_typeOf hg.typeIs ?_))
 show wpOwn _ _ _ ((pyIter (.ref I)).tryCatch _ >>= fun it => collect it >>= fun items => joinTail (S []) items) _ _ s
 refine wpOwn_bind (wpOwn_of_wpAny (wpAny_tryCatch (wpAny_pyIter_gen hg ?_)))
 refine wpOwn_bind ?_
 unfold collect
 refine wpOwn_bind ?_
 unfold runValue
 refine wpOwn_bind ?_
 unfold PySem.run
 refine y_call _ _ _ _ _ _ _ _ _ _ _ _ _ (by intro x; cases x) (codeAny_mono x ?_)
 rintro r s' ⟨a, ep, l, rfl, hl, hlong, hpost⟩
 show wpOwn _ _ _ (.pure (Flow.ret (.ref a))) _ _ _
 refine wpOwn_of_wpAny (wpAny_pure ?_)
 show wpOwn _ _ _ (.pure (Value.ref a)) _ _ _
 refine wpOwn_of_wpAny (wpAny_pure ?_)
 show wpOwn _ _ _ (PySem.load a >>= _) _ _ _
 refine wpOwn_bind (wpOwn_of_wpAny (wpAny_load hl ?_))
 show wpOwn _ _ _ (.pure (strValues l)) _ _ _
 refine wpOwn_of_wpAny (wpAny_pure ?_)
 refine wpOwn_of_wpAny ?_
 have g : Gives (joinTail (S []) (strValues l)) (joinMade (S []) l) := by
  have g0 := gives_joinTail (S []) l hlong
  cases l with
  | nil => exact g0
  | cons p r => cases r with
   | nil => exact g0
   | cons q r' => exact g0
 rw [Around.under_plainId F.slot_str_join.plain]
 exact g _ _ _ _ _ hpost
end
noncomputable abbrev r6 (w : World) (ra rd re rk ist : Nat) (p0 tx0 ty0 : Nat) (x0 y0 : List Nat) (p1 tx1 ty1 : Nat) (x1 y1 : List Nat) (p2 tx2 ty2 : Nat) (x2 y2 : List Nat) (p3 tx3 ty3 : Nat) (x3 y3 : List Nat) (p4 tx4 ty4 : Nat) (x4 y4 : List Nat) (p5 tx5 ty5 : Nat) (x5 y5 : List Nat) (r : Led) : Led :=
 (ra + 186, { cls := .ref 152, dict := some (rd + 186), data := .seq ⟨[.ref (p0 + 186), .ref (p1 + 186), .ref (p2 + 186), .ref (p3 + 186), .ref (p4 + 186), .ref (p5 + 186)]⟩ re }) :: (rd + 186, dictO 1 [en w c_iniize rk (.int 0 ist)]) :: (p0 + 186, tupO [.str (S x0) tx0, .str (S y0) ty0]) :: (p1 + 186, tupO [.str (S x1) tx1, .str (S y1) ty1]) :: (p2 + 186, tupO [.str (S x2) tx2, .str (S y2) ty2]) :: (p3 + 186, tupO [.str (S x3) tx3, .str (S y3) ty3]) :: (p4 + 186, tupO [.str (S x4) tx4, .str (S y4) ty4]) :: (p5 + 186, tupO [.str (S x5) tx5, .str (S y5) ty5]) :: r
noncomputable def s6ar_q (w : World) (b b2 : Bool) (ra rd re rk ist n t p0 tx0 ty0 p1 tx1 ty1 p2 tx2 ty2 p3 tx3 ty3 p4 tx4 ty4 p5 tx5 ty5 : Nat) (x0 y0 x1 y1 x2 y2 x3 y3 x4 y4 x5 y5 : List Nat) (r : Led) : List (Nat × Act) := [(4, .cut)]
noncomputable def s6ar (w : World) (b b2 : Bool) (ra rd re rk ist n t p0 tx0 ty0 p1 tx1 ty1 p2 tx2 ty2 p3 tx3 ty3 p4 tx4 ty4 p5 tx5 ty5 : Nat) (x0 y0 x1 y1 x2 y2 x3 y3 x4 y4 x5 y5 : List Nat) (r : Led) : RO :=
 run (V0 (wf (wf2 w b2) b)) 67 (dg 28 671239319837067726897928283903126385938411505056434273) (s6ar_q w b b2 ra rd re rk ist n t p0 tx0 ty0 p1 tx1 ty1 p2 tx2 ty2 p3 tx3 ty3 p4 tx4 ty4 p5 tx5 ty5 x0 y0 x1 y1 x2 y2 x3 y3 x4 y4 x5 y5 r) (Code.call (.ref 126) ⟨[.ref (ra + 186)], []⟩) none (.base) (denQ (Code.call (.ref 126) ⟨[.ref (ra + 186)], []⟩)) (r6 (wf (wf2 w b2) b) ra rd re rk ist p0 tx0 ty0 x0 y0 p1 tx1 ty1 x1 y1 p2 tx2 ty2 x2 y2 p3 tx3 ty3 x3 y3 p4 tx4 ty4 x4 y4 p5 tx5 ty5 x5 y5 ((121, tabO []) :: r)) (n + 186) (t) [] Acc.nil Acc.nil
section
variable {h₀ : HS} {w : World} {b b2 : Bool} (O : (B0 (wf (wf2 w b2) b) h₀).Ok) {A₀ : Around} (hA : AOk A₀ 140) {R : Result → Shared → Prop} {dr : Drawn} {os : OsState} {h : Heap}
include O hA
theorem s6ar_t {ra rd re rk ist n t p0 tx0 ty0 p1 tx1 ty1 p2 tx2 ty2 p3 tx3 ty3 p4 tx4 ty4 p5 tx5 ty5 : Nat} {x0 y0 x1 y1 x2 y2 x3 y3 x4 y4 x5 y5 : List Nat} {r : Led} (S₀ : St (B0 (wf (wf2 w b2) b) h₀) h (r6 (wf (wf2 w b2) b) ra rd re rk ist p0 tx0 ty0 x0 y0 p1 tx1 ty1 x1 y1 p2 tx2 ty2 x2 y2 p3 tx3 ty3 x3 y3 p4 tx4 ty4 x4 y4 p5 tx5 ty5 x5 y5 ((121, tabO []) :: r)) (n + 186))
  (next : ∀ κ, κ = (s6ar w b b2 ra rd re rk ist n t p0 tx0 ty0 p1 tx1 ty1 p2 tx2 ty2 p3 tx3 ty3 p4 tx4 ty4 p5 tx5 ty5 x0 y0 x1 y1 x2 y2 x3 y3 x4 y4 x5 y5 r).kont → depOk A₀ κ → κ.rlen = 1 → κ.len = 1 → ∀ h' t', St (B0 (wf (wf2 w b2) b) h₀) h' ((n + 192, { cls := .type "generator", dict := none, data := .fields ⟨[.int 0 0, .str (S c_genxpr) (t + 7), .str (S c_Accxpr) (t + 8)]⟩ }) :: (n + 191, frameO 1 [en (wf (wf2 w b2) b) [46, 48] (t + 6) (.ref (n + 187))]) :: (n + 190, { cls := .type "code", dict := none, data := .fields ⟨[.str (S c_genxpr) (t + 1), .str (S c_Accxpr) (t + 2), .str (S [47, 99, 108, 97, 105, 109, 47, 99, 117, 116, 46, 112, 121]) (t + 3), .int 94 0, .int 1 0, .int 0 0, .int 0 0, .int 51 0, .ref (n + 188), .bool true, .int 181 0, .ref (n + 189), .none, .none, .none, .none, .int (Int.ofNat (t + 4)) 0, .int 94 0, .str (S [47, 99, 108, 97, 105, 109, 47, 99, 117, 116, 46, 112, 121]) (t + 5)]⟩ }) :: (n + 189, tabO []) :: (n + 188, tupO []) :: (n + 187, lI (ra + 186) 0) :: (n + 186, frameO 1 [en (wf (wf2 w b2) b) c_self t (.ref (ra + 186))]) :: r6 (wf (wf2 w b2) b) ra rd re rk ist p0 tx0 ty0 x0 y0 p1 tx1 ty1 x1 y1 p2 tx2 ty2 x2 y2 p3 tx3 ty3 x3 y3 p4 tx4 ty4 x4 y4 p5 tx5 ty5 x5 y5 ((121, tabO [.int 94 0, .int 32 0, .ref (n + 190)]) :: r)) ((n + 193)) → codeAny (model PySem.Challenge.pw_tl0006_01 (wf (wf2 w b2) b)) (arnd A₀ κ) (bi "str.join" [.str (S []) 272, .ref (n + 192)]) (endK (B0 (wf (wf2 w b2) b) h₀) A₀ R κ) ⟨h', ⟨(s6ar w b b2 ra rd re rk ist n t p0 tx0 ty0 p1 tx1 ty1 p2 tx2 ty2 p3 tx3 ty3 p4 tx4 ty4 p5 tx5 ty5 x0 y0 x1 y1 x2 y2 x3 y3 x4 y4 x5 y5 r).gens⟩, dr, t', os⟩) :
  codeAny (model PySem.Challenge.pw_tl0006_01 (wf (wf2 w b2) b)) A₀ (Code.call (.ref 126) ⟨[.ref (ra + 186)], []⟩) R (sh h [] dr t os) := by
 exact code_run (qs := (s6ar_q w b b2 ra rd re rk ist n t p0 tx0 ty0 p1 tx1 ty1 p2 tx2 ty2 p3 tx3 ty3 p4 tx4 ty4 p5 tx5 ty5 x0 y0 x1 y1 x2 y2 x3 y3 x4 y4 x5 y5 r)) O hA  (aC trivial <| aN) (fine_cut (o := s6ar w b b2 ra rd re rk ist n t p0 tx0 ty0 p1 tx1 ty1 p2 tx2 ty2 p3 tx3 ty3 p4 tx4 ty4 p5 tx5 ty5 x0 y0 x1 y1 x2 y2 x3 y3 x4 y4 x5 y5 r) (is := [0, 1, 2, 3, 4, 5, 6, 7, 8, 9, 10, 11, 12, 13, 14, 15]) (d := 16) (Vw.Is.eq (by refine Bool.rec (Bool.rec ?_ ?_ b2) (Bool.rec ?_ ?_ b2) b <;> and_intros <;> kernel_rfl)) rfl (next _ rfl)) S₀
end
theorem s6ac_t {h₀ : HS} {w : World} {b b2 : Bool} {ra rd re rk ist n t p0 tx0 ty0 p1 tx1 ty1 p2 tx2 ty2 p3 tx3 ty3 p4 tx4 ty4 p5 tx5 ty5 : Nat} {x0 y0 x1 y1 x2 y2 x3 y3 x4 y4 x5 y5 : List Nat} {r : Led} {n2 t2 : Nat} (O : (B0 (wf (wf2 w b2) b) h₀).Ok) {A₀ : Around} (hA : AOk A₀ 140) {R : Result → Shared → Prop} {dr : Drawn} {os : OsState}  (hl0 : x0.length + y0.length ≤ 1000) (hl1 : x1.length + y1.length ≤ 1000) (hl2 : x2.length + y2.length ≤ 1000) (hl3 : x3.length + y3.length ≤ 1000) (hl4 : x4.length + y4.length ≤ 1000) (hl5 : x5.length + y5.length ≤ 1000) {h : Heap} (S₀ : St (B0 (wf (wf2 w b2) b) h₀) h ((n + 192, { cls := .type "generator", dict := none, data := .fields ⟨[.int 0 0, .str (S c_genxpr) (t + 7), .str (S c_Accxpr) (t + 8)]⟩ }) :: (n + 191, frameO 1 [en (wf (wf2 w b2) b) [46, 48] (t + 6) (.ref (n + 187))]) :: (n + 190, { cls := .type "code", dict := none, data := .fields ⟨[.str (S c_genxpr) (t + 1), .str (S c_Accxpr) (t + 2), .str (S [47, 99, 108, 97, 105, 109, 47, 99, 117, 116, 46, 112, 121]) (t + 3), .int 94 0, .int 1 0, .int 0 0, .int 0 0, .int 51 0, .ref (n + 188), .bool true, .int 181 0, .ref (n + 189), .none, .none, .none, .none, .int (Int.ofNat (t + 4)) 0, .int 94 0, .str (S [47, 99, 108, 97, 105, 109, 47, 99, 117, 116, 46, 112, 121]) (t + 5)]⟩ }) :: (n + 189, tabO []) :: (n + 188, tupO []) :: (n + 187, lI (ra + 186) 0) :: (n + 186, frameO 1 [en (wf (wf2 w b2) b) c_self t (.ref (ra + 186))]) :: r6 (wf (wf2 w b2) b) ra rd re rk ist p0 tx0 ty0 x0 y0 p1 tx1 ty1 x1 y1 p2 tx2 ty2 x2 y2 p3 tx3 ty3 x3 y3 p4 tx4 ty4 x4 y4 p5 tx5 ty5 x5 y5 ((121, tabO [.int 94 0, .int 32 0, .ref (n + 190)]) :: r)) (n2 + 186))
  (next : ∀ h' t', St (B0 (wf (wf2 w b2) b) h₀) h' ((n2 + 186, listO [.str (S (x0 ++ y0)) (t2 + 2), .str (S (x1 ++ y1)) (t2 + 5), .str (S (x2 ++ y2)) (t2 + 8), .str (S (x3 ++ y3)) (t2 + 11), .str (S (x4 ++ y4)) (t2 + 14), .str (S (x5 ++ y5)) (t2 + 17)] 8) :: r6 (wf (wf2 w b2) b) ra rd re rk ist p0 tx0 ty0 x0 y0 p1 tx1 ty1 x1 y1 p2 tx2 ty2 x2 y2 p3 tx3 ty3 x3 y3 p4 tx4 ty4 x4 y4 p5 tx5 ty5 x5 y5 ((121, tabO [.int 94 0, .int 32 0, .ref (n + 190)]) :: r)) ((n2 + 215)) → R (.ok (.ret (.ref (n2 + 186)))) (sh h' [.finished] dr t' os)) :
  codeAny (model PySem.Challenge.pw_tl0006_01 (wf (wf2 w b2) b)) A₀ (bi "proto.collect" [.ref (n + 192)]) R ⟨h, ⟨(s6ar w b b2 ra rd re rk ist n t p0 tx0 ty0 p1 tx1 ty1 p2 tx2 ty2 p3 tx3 ty3 p4 tx4 ty4 p5 tx5 ty5 x0 y0 x1 y1 x2 y2 x3 y3 x4 y4 x5 y5 r).gens⟩, dr, t2, os⟩ := by
 exact code_run (f := 661) (ls := [2, 1, 1, 1, 2, 2, 2, 0] ++ (cond b2 [] [7, 7, 7, 7] ++ (dg 303 89576954168389848499595920584624114395226356893549256924776590479341376262842855704693901473035745059115393903915532065781123924990130525171394892354347349580348708643798863465185067638649264122236131530587773180035815292039239788785679596258314221861708513794695973402591838996376465945293540461120545565360342821126531880010465593591220168861809363714914897781013629463688727934805345342176671634810024658894920189135723792888062109924918772940576844737485729934667732880869667289054464562055729105848667254955381290722386128386010422709714488111015799636364943345486443588499365930922788394967816))) (qs := [(cond b2 15 17, .ora [0] [((n2 + 190), tupO [.str (S x0) tx0, .str (S y0) ty0])] (.call (.builtin "str.join") ⟨[.str (S []) 272, .ref (n2 + 190)], []⟩) (fun t => Value.str (S (x0 ++ y0)) t) 1), (14, .ora [0] [((n2 + 194), tupO [.str (S x1) tx1, .str (S y1) ty1])] (.call (.builtin "str.join") ⟨[.str (S []) 272, .ref (n2 + 194)], []⟩) (fun t => Value.str (S (x1 ++ y1)) t) 1), (14, .ora [0] [((n2 + 198), tupO [.str (S x2) tx2, .str (S y2) ty2])] (.call (.builtin "str.join") ⟨[.str (S []) 272, .ref (n2 + 198)], []⟩) (fun t => Value.str (S (x2 ++ y2)) t) 1), (14, .ora [0] [((n2 + 202), tupO [.str (S x3) tx3, .str (S y3) ty3])] (.call (.builtin "str.join") ⟨[.str (S []) 272, .ref (n2 + 202)], []⟩) (fun t => Value.str (S (x3 ++ y3)) t) 1), (14, .ora [0] [((n2 + 206), tupO [.str (S x4) tx4, .str (S y4) ty4])] (.call (.builtin "str.join") ⟨[.str (S []) 272, .ref (n2 + 206)], []⟩) (fun t => Value.str (S (x4 ++ y4)) t) 1), (14, .ora [0] [((n2 + 210), tupO [.str (S x5) tx5, .str (S y5) ty5])] (.call (.builtin "str.join") ⟨[.str (S []) 272, .ref (n2 + 210)], []⟩) (fun t => Value.str (S (x5 ++ y5)) t) 1)]) O hA  (aC (ora_join2 _ _ _ _ _ _ hl0) <| aC (ora_join2 _ _ _ _ _ _ hl1) <| aC (ora_join2 _ _ _ _ _ _ hl2) <| aC (ora_join2 _ _ _ _ _ _ hl3) <| aC (ora_join2 _ _ _ _ _ _ hl4) <| aC (ora_join2 _ _ _ _ _ _ hl5) <| aN) (FineS.ats (m := 38) fun ps0 => (fine_done (is := [28, 36, 37, 38, 39, 40, 41, 42, 43, 44]) (d := 45) (Vw.Is.eq (by refine Bool.rec (Bool.rec ?_ ?_ b2) (Bool.rec ?_ ?_ b2) b <;> and_intros <;> kernel_rfl)) rfl next)) S₀
section
variable {h₀ : HS} {w : World} {b b2 : Bool} (O : (B0 (wf (wf2 w b2) b) h₀).Ok) {A₀ : Around} (hA : AOk A₀ 140) {R : Result → Shared → Prop} {dr : Drawn} {os : OsState} {h : Heap}
include O hA
theorem s6aj_t {ra rd re rk ist n t p0 tx0 ty0 p1 tx1 ty1 p2 tx2 ty2 p3 tx3 ty3 p4 tx4 ty4 p5 tx5 ty5 : Nat} {x0 y0 x1 y1 x2 y2 x3 y3 x4 y4 x5 y5 : List Nat} {r : Led} {n2 t2 tq : Nat} {q : Str} {r2 : Led} {gl2 : List GenState} {κ : RK} (hκ : κ = ((s6ar w b b2 ra rd re rk ist n t p0 tx0 ty0 p1 tx1 ty1 p2 tx2 ty2 p3 tx3 ty3 p4 tx4 ty4 p5 tx5 ty5 x0 y0 x1 y1 x2 y2 x3 y3 x4 y4 x5 y5 r)).kont) {m : Nat} (hl : κ.rlen = m + 1) (hd : depOk A₀ κ)  (S₀ : St (B0 (wf (wf2 w b2) b) h₀) h (r2) (n2 + 186))
  (next : ∀ h' t', St (B0 (wf (wf2 w b2) b) h₀) h' (r2) ((n2 + 186)) → R (.ok (.ret (.str (q) tq))) ⟨h', ⟨gl2⟩, dr, t', os⟩) :
  endK (B0 (wf (wf2 w b2) b) h₀) A₀ R κ (.ok (.ret (.str q tq))) ⟨h, ⟨gl2⟩, dr, t2, os⟩ := by
 exact rest_run (f := 7) (ls := []) (qs := []) O hA hκ hl hd aN (fine_done (is := []) (d := 0) (Vw.Is.eq (by refine Bool.rec (Bool.rec ?_ ?_ b2) (Bool.rec ?_ ?_ b2) b <;> and_intros <;> kernel_rfl)) rfl next) S₀
noncomputable def s6br_q (w : World) (b b2 : Bool) (ra rd re rk ist n t cx p0 tx0 ty0 p1 tx1 ty1 p2 tx2 ty2 p3 tx3 ty3 p4 tx4 ty4 p5 tx5 ty5 : Nat) (x0 y0 x1 y1 x2 y2 x3 y3 x4 y4 x5 y5 : List Nat) (r : Led) : List (Nat × Act) := [(4, .cut)]
noncomputable def s6br (w : World) (b b2 : Bool) (ra rd re rk ist n t cx p0 tx0 ty0 p1 tx1 ty1 p2 tx2 ty2 p3 tx3 ty3 p4 tx4 ty4 p5 tx5 ty5 : Nat) (x0 y0 x1 y1 x2 y2 x3 y3 x4 y4 x5 y5 : List Nat) (r : Led) : RO :=
 run (V0 (wf (wf2 w b2) b)) 56 (dg 25 758688815114485942006308586843039744123961296993) (s6br_q w b b2 ra rd re rk ist n t cx p0 tx0 ty0 p1 tx1 ty1 p2 tx2 ty2 p3 tx3 ty3 p4 tx4 ty4 p5 tx5 ty5 x0 y0 x1 y1 x2 y2 x3 y3 x4 y4 x5 y5 r) (Code.call (.ref 126) ⟨[.ref (ra + 186)], []⟩) none (.base) (denQ (Code.call (.ref 126) ⟨[.ref (ra + 186)], []⟩)) (r6 (wf (wf2 w b2) b) ra rd re rk ist p0 tx0 ty0 x0 y0 p1 tx1 ty1 x1 y1 p2 tx2 ty2 x2 y2 p3 tx3 ty3 x3 y3 p4 tx4 ty4 x4 y4 p5 tx5 ty5 x5 y5 ((121, tabO [.int 94 0, .int 32 0, .ref (cx + 186)]) :: r)) (n + 186) (t) [.finished] Acc.nil Acc.nil
theorem s6br_t {ra rd re rk ist n t cx p0 tx0 ty0 p1 tx1 ty1 p2 tx2 ty2 p3 tx3 ty3 p4 tx4 ty4 p5 tx5 ty5 : Nat} {x0 y0 x1 y1 x2 y2 x3 y3 x4 y4 x5 y5 : List Nat} {r : Led} (S₀ : St (B0 (wf (wf2 w b2) b) h₀) h (r6 (wf (wf2 w b2) b) ra rd re rk ist p0 tx0 ty0 x0 y0 p1 tx1 ty1 x1 y1 p2 tx2 ty2 x2 y2 p3 tx3 ty3 x3 y3 p4 tx4 ty4 x4 y4 p5 tx5 ty5 x5 y5 ((121, tabO [.int 94 0, .int 32 0, .ref (cx + 186)]) :: r)) (n + 186))
  (next : ∀ κ, κ = (s6br w b b2 ra rd re rk ist n t cx p0 tx0 ty0 p1 tx1 ty1 p2 tx2 ty2 p3 tx3 ty3 p4 tx4 ty4 p5 tx5 ty5 x0 y0 x1 y1 x2 y2 x3 y3 x4 y4 x5 y5 r).kont → depOk A₀ κ → κ.rlen = 1 → κ.len = 1 → ∀ h' t', St (B0 (wf (wf2 w b2) b) h₀) h' ((n + 189, { cls := .type "generator", dict := none, data := .fields ⟨[.int 1 0, .str (S c_genxpr) (t + 2), .str (S c_Accxpr) (t + 3)]⟩ }) :: (n + 188, frameO 1 [en (wf (wf2 w b2) b) [46, 48] (t + 1) (.ref (n + 187))]) :: (n + 187, lI (ra + 186) 0) :: (n + 186, frameO 1 [en (wf (wf2 w b2) b) c_self t (.ref (ra + 186))]) :: r6 (wf (wf2 w b2) b) ra rd re rk ist p0 tx0 ty0 x0 y0 p1 tx1 ty1 x1 y1 p2 tx2 ty2 x2 y2 p3 tx3 ty3 x3 y3 p4 tx4 ty4 x4 y4 p5 tx5 ty5 x5 y5 ((121, tabO [.int 94 0, .int 32 0, .ref (cx + 186)]) :: r)) ((n + 190)) → codeAny (model PySem.Challenge.pw_tl0006_01 (wf (wf2 w b2) b)) (arnd A₀ κ) (bi "str.join" [.str (S []) 272, .ref (n + 189)]) (endK (B0 (wf (wf2 w b2) b) h₀) A₀ R κ) ⟨h', ⟨(s6br w b b2 ra rd re rk ist n t cx p0 tx0 ty0 p1 tx1 ty1 p2 tx2 ty2 p3 tx3 ty3 p4 tx4 ty4 p5 tx5 ty5 x0 y0 x1 y1 x2 y2 x3 y3 x4 y4 x5 y5 r).gens⟩, dr, t', os⟩) :
  codeAny (model PySem.Challenge.pw_tl0006_01 (wf (wf2 w b2) b)) A₀ (Code.call (.ref 126) ⟨[.ref (ra + 186)], []⟩) R (sh h [.finished] dr t os) := by
 exact code_run (qs := (s6br_q w b b2 ra rd re rk ist n t cx p0 tx0 ty0 p1 tx1 ty1 p2 tx2 ty2 p3 tx3 ty3 p4 tx4 ty4 p5 tx5 ty5 x0 y0 x1 y1 x2 y2 x3 y3 x4 y4 x5 y5 r)) O hA  (aC trivial <| aN) (fine_cut (o := s6br w b b2 ra rd re rk ist n t cx p0 tx0 ty0 p1 tx1 ty1 p2 tx2 ty2 p3 tx3 ty3 p4 tx4 ty4 p5 tx5 ty5 x0 y0 x1 y1 x2 y2 x3 y3 x4 y4 x5 y5 r) (is := [0, 1, 2, 3, 4, 5, 6, 7, 8, 9, 10, 11, 12]) (d := 13) (Vw.Is.eq (by refine Bool.rec (Bool.rec ?_ ?_ b2) (Bool.rec ?_ ?_ b2) b <;> and_intros <;> kernel_rfl)) rfl (next _ rfl)) S₀
end
theorem s6bc_t {h₀ : HS} {w : World} {b b2 : Bool} {ra rd re rk ist n t cx p0 tx0 ty0 p1 tx1 ty1 p2 tx2 ty2 p3 tx3 ty3 p4 tx4 ty4 p5 tx5 ty5 : Nat} {x0 y0 x1 y1 x2 y2 x3 y3 x4 y4 x5 y5 : List Nat} {r : Led} {n2 t2 : Nat} (O : (B0 (wf (wf2 w b2) b) h₀).Ok) {A₀ : Around} (hA : AOk A₀ 140) {R : Result → Shared → Prop} {dr : Drawn} {os : OsState}  (hl0 : x0.length + y0.length ≤ 1000) (hl1 : x1.length + y1.length ≤ 1000) (hl2 : x2.length + y2.length ≤ 1000) (hl3 : x3.length + y3.length ≤ 1000) (hl4 : x4.length + y4.length ≤ 1000) (hl5 : x5.length + y5.length ≤ 1000) {h : Heap} (S₀ : St (B0 (wf (wf2 w b2) b) h₀) h ((n + 189, { cls := .type "generator", dict := none, data := .fields ⟨[.int 1 0, .str (S c_genxpr) (t + 2), .str (S c_Accxpr) (t + 3)]⟩ }) :: (n + 188, frameO 1 [en (wf (wf2 w b2) b) [46, 48] (t + 1) (.ref (n + 187))]) :: (n + 187, lI (ra + 186) 0) :: (n + 186, frameO 1 [en (wf (wf2 w b2) b) c_self t (.ref (ra + 186))]) :: r6 (wf (wf2 w b2) b) ra rd re rk ist p0 tx0 ty0 x0 y0 p1 tx1 ty1 x1 y1 p2 tx2 ty2 x2 y2 p3 tx3 ty3 x3 y3 p4 tx4 ty4 x4 y4 p5 tx5 ty5 x5 y5 ((121, tabO [.int 94 0, .int 32 0, .ref (cx + 186)]) :: r)) (n2 + 186))
  (next : ∀ h' t', St (B0 (wf (wf2 w b2) b) h₀) h' ((n2 + 186, listO [.str (S (x0 ++ y0)) (t2 + 2), .str (S (x1 ++ y1)) (t2 + 5), .str (S (x2 ++ y2)) (t2 + 8), .str (S (x3 ++ y3)) (t2 + 11), .str (S (x4 ++ y4)) (t2 + 14), .str (S (x5 ++ y5)) (t2 + 17)] 8) :: r6 (wf (wf2 w b2) b) ra rd re rk ist p0 tx0 ty0 x0 y0 p1 tx1 ty1 x1 y1 p2 tx2 ty2 x2 y2 p3 tx3 ty3 x3 y3 p4 tx4 ty4 x4 y4 p5 tx5 ty5 x5 y5 ((121, tabO [.int 94 0, .int 32 0, .ref (cx + 186)]) :: r)) ((n2 + 215)) → R (.ok (.ret (.ref (n2 + 186)))) (sh h' [.finished, .finished] dr t' os)) :
  codeAny (model PySem.Challenge.pw_tl0006_01 (wf (wf2 w b2) b)) A₀ (bi "proto.collect" [.ref (n + 189)]) R ⟨h, ⟨(s6br w b b2 ra rd re rk ist n t cx p0 tx0 ty0 p1 tx1 ty1 p2 tx2 ty2 p3 tx3 ty3 p4 tx4 ty4 p5 tx5 ty5 x0 y0 x1 y1 x2 y2 x3 y3 x4 y4 x5 y5 r).gens⟩, dr, t2, os⟩ := by
 exact code_run (f := 661) (ls := [2, 1, 1, 1, 2, 2, 2, 0] ++ (cond b2 [] [4, 4, 4, 4] ++ (dg 303 89562398277404080979788737883995969922513533240868668775381373028026353099048625570547790654792192320783080487033161219848667221594970317590965477173694633315558845167381948136948657774048821116891687191042176165465429144804416618128365348518448192977172296634115366715950066283941379117981401016402594967614111061275393098929360603139813614939388518832864338602272615158442193266139310736524821893853552082480997635806096981522159695515621761127820329416472994852321731096578316673389340455403888901715771392015196445527368598605080805972850738705949544245716682294849976870777726025901760513848805))) (qs := [(cond b2 15 17, .ora [0] [((n2 + 190), tupO [.str (S x0) tx0, .str (S y0) ty0])] (.call (.builtin "str.join") ⟨[.str (S []) 272, .ref (n2 + 190)], []⟩) (fun t => Value.str (S (x0 ++ y0)) t) 1), (14, .ora [0] [((n2 + 194), tupO [.str (S x1) tx1, .str (S y1) ty1])] (.call (.builtin "str.join") ⟨[.str (S []) 272, .ref (n2 + 194)], []⟩) (fun t => Value.str (S (x1 ++ y1)) t) 1), (14, .ora [0] [((n2 + 198), tupO [.str (S x2) tx2, .str (S y2) ty2])] (.call (.builtin "str.join") ⟨[.str (S []) 272, .ref (n2 + 198)], []⟩) (fun t => Value.str (S (x2 ++ y2)) t) 1), (14, .ora [0] [((n2 + 202), tupO [.str (S x3) tx3, .str (S y3) ty3])] (.call (.builtin "str.join") ⟨[.str (S []) 272, .ref (n2 + 202)], []⟩) (fun t => Value.str (S (x3 ++ y3)) t) 1), (14, .ora [0] [((n2 + 206), tupO [.str (S x4) tx4, .str (S y4) ty4])] (.call (.builtin "str.join") ⟨[.str (S []) 272, .ref (n2 + 206)], []⟩) (fun t => Value.str (S (x4 ++ y4)) t) 1), (14, .ora [0] [((n2 + 210), tupO [.str (S x5) tx5, .str (S y5) ty5])] (.call (.builtin "str.join") ⟨[.str (S []) 272, .ref (n2 + 210)], []⟩) (fun t => Value.str (S (x5 ++ y5)) t) 1)]) O hA  (aC (ora_join2 _ _ _ _ _ _ hl0) <| aC (ora_join2 _ _ _ _ _ _ hl1) <| aC (ora_join2 _ _ _ _ _ _ hl2) <| aC (ora_join2 _ _ _ _ _ _ hl3) <| aC (ora_join2 _ _ _ _ _ _ hl4) <| aC (ora_join2 _ _ _ _ _ _ hl5) <| aN) (FineS.ats (m := 38) fun ps0 => (fine_done (is := [28, 33, 34, 35, 36, 37, 38, 39, 40, 41]) (d := 42) (Vw.Is.eq (by refine Bool.rec (Bool.rec ?_ ?_ b2) (Bool.rec ?_ ?_ b2) b <;> and_intros <;> kernel_rfl)) rfl next)) S₀
section
variable {h₀ : HS} {w : World} {b b2 : Bool} (O : (B0 (wf (wf2 w b2) b) h₀).Ok) {A₀ : Around} (hA : AOk A₀ 140) {R : Result → Shared → Prop} {dr : Drawn} {os : OsState} {h : Heap}
include O hA
theorem s6bj_t {ra rd re rk ist n t cx p0 tx0 ty0 p1 tx1 ty1 p2 tx2 ty2 p3 tx3 ty3 p4 tx4 ty4 p5 tx5 ty5 : Nat} {x0 y0 x1 y1 x2 y2 x3 y3 x4 y4 x5 y5 : List Nat} {r : Led} {n2 t2 tq : Nat} {q : Str} {r2 : Led} {gl2 : List GenState} {κ : RK} (hκ : κ = ((s6br w b b2 ra rd re rk ist n t cx p0 tx0 ty0 p1 tx1 ty1 p2 tx2 ty2 p3 tx3 ty3 p4 tx4 ty4 p5 tx5 ty5 x0 y0 x1 y1 x2 y2 x3 y3 x4 y4 x5 y5 r)).kont) {m : Nat} (hl : κ.rlen = m + 1) (hd : depOk A₀ κ)  (S₀ : St (B0 (wf (wf2 w b2) b) h₀) h (r2) (n2 + 186))
  (next : ∀ h' t', St (B0 (wf (wf2 w b2) b) h₀) h' (r2) ((n2 + 186)) → R (.ok (.ret (.str (q) tq))) ⟨h', ⟨gl2⟩, dr, t', os⟩) :
  endK (B0 (wf (wf2 w b2) b) h₀) A₀ R κ (.ok (.ret (.str q tq))) ⟨h, ⟨gl2⟩, dr, t2, os⟩ := by
 exact rest_run (f := 7) (ls := []) (qs := []) O hA hκ hl hd aN (fine_done (is := []) (d := 0) (Vw.Is.eq (by refine Bool.rec (Bool.rec ?_ ?_ b2) (Bool.rec ?_ ?_ b2) b <;> and_intros <;> kernel_rfl)) rfl next) S₀
noncomputable def s1cr_q (w : World) (b b2 : Bool) (ra rd re rk ist n t cx p0 tx0 ty0 : Nat) (x0 y0 : List Nat) (r : Led) : List (Nat × Act) := [(4, .cut)]
noncomputable def s1cr (w : World) (b b2 : Bool) (ra rd re rk ist n t cx p0 tx0 ty0 : Nat) (x0 y0 : List Nat) (r : Led) : RO :=
 run (V0 (wf (wf2 w b2) b)) 56 (dg 25 758688793014364248035922001901685796965280598113) (s1cr_q w b b2 ra rd re rk ist n t cx p0 tx0 ty0 x0 y0 r) (Code.call (.ref 126) ⟨[.ref (ra + 186)], []⟩) none (.base) (denQ (Code.call (.ref 126) ⟨[.ref (ra + 186)], []⟩)) ((ra + 186, { cls := .ref 152, dict := some (rd + 186), data := .seq ⟨[.ref (p0 + 186)]⟩ re }) :: (rd + 186, dictO 1 [en (wf (wf2 w b2) b) c_iniize rk (.int 0 ist)]) :: (p0 + 186, tupO [.str (S x0) tx0, .str (S y0) ty0]) :: (121, tabO [.int 94 0, .int 32 0, .ref (cx + 186)]) :: r) (n + 186) (t) [.finished, .finished] Acc.nil Acc.nil
theorem s1cr_t {ra rd re rk ist n t cx p0 tx0 ty0 : Nat} {x0 y0 : List Nat} {r : Led} (S₀ : St (B0 (wf (wf2 w b2) b) h₀) h ((ra + 186, { cls := .ref 152, dict := some (rd + 186), data := .seq ⟨[.ref (p0 + 186)]⟩ re }) :: (rd + 186, dictO 1 [en (wf (wf2 w b2) b) c_iniize rk (.int 0 ist)]) :: (p0 + 186, tupO [.str (S x0) tx0, .str (S y0) ty0]) :: (121, tabO [.int 94 0, .int 32 0, .ref (cx + 186)]) :: r) (n + 186))
  (next : ∀ κ, κ = (s1cr w b b2 ra rd re rk ist n t cx p0 tx0 ty0 x0 y0 r).kont → depOk A₀ κ → κ.rlen = 1 → κ.len = 1 → ∀ h' t', St (B0 (wf (wf2 w b2) b) h₀) h' ((n + 189, { cls := .type "generator", dict := none, data := .fields ⟨[.int 2 0, .str (S c_genxpr) (t + 2), .str (S c_Accxpr) (t + 3)]⟩ }) :: (n + 188, frameO 1 [en (wf (wf2 w b2) b) [46, 48] (t + 1) (.ref (n + 187))]) :: (n + 187, lI (ra + 186) 0) :: (n + 186, frameO 1 [en (wf (wf2 w b2) b) c_self t (.ref (ra + 186))]) :: (ra + 186, { cls := .ref 152, dict := some (rd + 186), data := .seq ⟨[.ref (p0 + 186)]⟩ re }) :: (rd + 186, dictO 1 [en (wf (wf2 w b2) b) c_iniize rk (.int 0 ist)]) :: (p0 + 186, tupO [.str (S x0) tx0, .str (S y0) ty0]) :: (121, tabO [.int 94 0, .int 32 0, .ref (cx + 186)]) :: r) ((n + 190)) → codeAny (model PySem.Challenge.pw_tl0006_01 (wf (wf2 w b2) b)) (arnd A₀ κ) (bi "str.join" [.str (S []) 272, .ref (n + 189)]) (endK (B0 (wf (wf2 w b2) b) h₀) A₀ R κ) ⟨h', ⟨(s1cr w b b2 ra rd re rk ist n t cx p0 tx0 ty0 x0 y0 r).gens⟩, dr, t', os⟩) :
  codeAny (model PySem.Challenge.pw_tl0006_01 (wf (wf2 w b2) b)) A₀ (Code.call (.ref 126) ⟨[.ref (ra + 186)], []⟩) R (sh h [.finished, .finished] dr t os) := by
 exact code_run (qs := (s1cr_q w b b2 ra rd re rk ist n t cx p0 tx0 ty0 x0 y0 r)) O hA  (aC trivial <| aN) (fine_cut (o := s1cr w b b2 ra rd re rk ist n t cx p0 tx0 ty0 x0 y0 r) (is := [0, 1, 2, 3, 4, 5, 6, 7]) (d := 8) (Vw.Is.eq (by refine Bool.rec (Bool.rec ?_ ?_ b2) (Bool.rec ?_ ?_ b2) b <;> and_intros <;> kernel_rfl)) rfl (next _ rfl)) S₀
end
theorem s1cc_t {h₀ : HS} {w : World} {b b2 : Bool} {ra rd re rk ist n t cx p0 tx0 ty0 : Nat} {x0 y0 : List Nat} {r : Led} {n2 t2 : Nat} (O : (B0 (wf (wf2 w b2) b) h₀).Ok) {A₀ : Around} (hA : AOk A₀ 140) {R : Result → Shared → Prop} {dr : Drawn} {os : OsState}  (hl0 : x0.length + y0.length ≤ 1000) {h : Heap} (S₀ : St (B0 (wf (wf2 w b2) b) h₀) h ((n + 189, { cls := .type "generator", dict := none, data := .fields ⟨[.int 2 0, .str (S c_genxpr) (t + 2), .str (S c_Accxpr) (t + 3)]⟩ }) :: (n + 188, frameO 1 [en (wf (wf2 w b2) b) [46, 48] (t + 1) (.ref (n + 187))]) :: (n + 187, lI (ra + 186) 0) :: (n + 186, frameO 1 [en (wf (wf2 w b2) b) c_self t (.ref (ra + 186))]) :: (ra + 186, { cls := .ref 152, dict := some (rd + 186), data := .seq ⟨[.ref (p0 + 186)]⟩ re }) :: (rd + 186, dictO 1 [en (wf (wf2 w b2) b) c_iniize rk (.int 0 ist)]) :: (p0 + 186, tupO [.str (S x0) tx0, .str (S y0) ty0]) :: (121, tabO [.int 94 0, .int 32 0, .ref (cx + 186)]) :: r) (n2 + 186))
  (next : ∀ h' t', St (B0 (wf (wf2 w b2) b) h₀) h' ((n2 + 186, listO [.str (S (x0 ++ y0)) (t2 + 2)] 3) :: (ra + 186, { cls := .ref 152, dict := some (rd + 186), data := .seq ⟨[.ref (p0 + 186)]⟩ re }) :: (rd + 186, dictO 1 [en (wf (wf2 w b2) b) c_iniize rk (.int 0 ist)]) :: (p0 + 186, tupO [.str (S x0) tx0, .str (S y0) ty0]) :: (121, tabO [.int 94 0, .int 32 0, .ref (cx + 186)]) :: r) ((n2 + 195)) → R (.ok (.ret (.ref (n2 + 186)))) (sh h' [.finished, .finished, .finished] dr t' os)) :
  codeAny (model PySem.Challenge.pw_tl0006_01 (wf (wf2 w b2) b)) A₀ (bi "proto.collect" [.ref (n + 189)]) R ⟨h, ⟨(s1cr w b b2 ra rd re rk ist n t cx p0 tx0 ty0 x0 y0 r).gens⟩, dr, t2, os⟩ := by
 exact code_run (f := 156) (ls := [2, 1, 1, 1, 2, 2, 2, 0] ++ (cond b2 [] [4, 4, 4, 4] ++ (dg 58 197334406710234139683569058796141658836073342824811883208117717833500512491075547224009486775970779344604358784485))) (qs := [(cond b2 15 17, .ora [0] [((n2 + 190), tupO [.str (S x0) tx0, .str (S y0) ty0])] (.call (.builtin "str.join") ⟨[.str (S []) 272, .ref (n2 + 190)], []⟩) (fun t => Value.str (S (x0 ++ y0)) t) 1)]) O hA  (aC (ora_join2 _ _ _ _ _ _ hl0) <| aN) (FineS.ats (m := 8) fun ps0 => (fine_done (is := [8, 13, 14, 15, 16]) (d := 17) (Vw.Is.eq (by refine Bool.rec (Bool.rec ?_ ?_ b2) (Bool.rec ?_ ?_ b2) b <;> and_intros <;> kernel_rfl)) rfl next)) S₀
section
variable {h₀ : HS} {w : World} {b b2 : Bool} (O : (B0 (wf (wf2 w b2) b) h₀).Ok) {A₀ : Around} (hA : AOk A₀ 140) {R : Result → Shared → Prop} {dr : Drawn} {os : OsState} {h : Heap}
include O hA
theorem s1cj_t {ra rd re rk ist n t cx p0 tx0 ty0 : Nat} {x0 y0 : List Nat} {r : Led} {n2 t2 tq : Nat} {q : Str} {r2 : Led} {gl2 : List GenState} {κ : RK} (hκ : κ = ((s1cr w b b2 ra rd re rk ist n t cx p0 tx0 ty0 x0 y0 r)).kont) {m : Nat} (hl : κ.rlen = m + 1) (hd : depOk A₀ κ)  (S₀ : St (B0 (wf (wf2 w b2) b) h₀) h (r2) (n2 + 186))
  (next : ∀ h' t', St (B0 (wf (wf2 w b2) b) h₀) h' (r2) ((n2 + 186)) → R (.ok (.ret (.str (q) tq))) ⟨h', ⟨gl2⟩, dr, t', os⟩) :
  endK (B0 (wf (wf2 w b2) b) h₀) A₀ R κ (.ok (.ret (.str q tq))) ⟨h, ⟨gl2⟩, dr, t2, os⟩ := by
 exact rest_run (f := 7) (ls := []) (qs := []) O hA hκ hl hd aN (fine_done (is := []) (d := 0) (Vw.Is.eq (by refine Bool.rec (Bool.rec ?_ ?_ b2) (Bool.rec ?_ ?_ b2) b <;> and_intros <;> kernel_rfl)) rfl next) S₀
end
theorem str1c {h₀ : HS} {w : World} {b b2 : Bool} {ra rd re rk ist n t cx p0 tx0 ty0 : Nat} {x0 y0 : List Nat} {r : Led} (O : (B0 (wf (wf2 w b2) b) h₀).Ok) {A₀ : Around} (hA : AOk A₀ 170) {R : Result → Shared → Prop} {dr : Drawn} {os : OsState} (hl0 : x0.length + y0.length ≤ 100) {h : Heap}
  (S₀ : St (B0 (wf (wf2 w b2) b) h₀) h ((ra + 186, { cls := .ref 152, dict := some (rd + 186), data := .seq ⟨[.ref (p0 + 186)]⟩ re }) :: (rd + 186, dictO 1 [en (wf (wf2 w b2) b) c_iniize rk (.int 0 ist)]) :: (p0 + 186, tupO [.str (S x0) tx0, .str (S y0) ty0]) :: (121, tabO [.int 94 0, .int 32 0, .ref (cx + 186)]) :: r) (n + 186))
  (next : ∀ h' n' t' cx tq, St (B0 (wf (wf2 w b2) b) h₀) h' ((ra + 186, { cls := .ref 152, dict := some (rd + 186), data := .seq ⟨[.ref (p0 + 186)]⟩ re }) :: (rd + 186, dictO 1 [en (wf (wf2 w b2) b) c_iniize rk (.int 0 ist)]) :: (p0 + 186, tupO [.str (S x0) tx0, .str (S y0) ty0]) :: (121, tabO [.int 94 0, .int 32 0, .ref (cx + 186)]) :: r) (n' + 186) → R (.ok (.ret (.str (S [x0 ++ y0].flatten) tq))) (sh h' [.finished, .finished, .finished] dr t' os)) :
  codeAny (model PySem.Challenge.pw_tl0006_01 (wf (wf2 w b2) b)) A₀ (Code.call (.ref 126) ⟨[.ref (ra + 186)], []⟩) R (sh h [.finished, .finished] dr t os) := by
 refine s1cr_t O (hA.le (by lia)) S₀ fun κ hκ hdp h1 h2 h' t' S' => ?_
 obtain ⟨g, hg⟩ := isGen_ok (S'.led _ (.head _)) (by kernel_rfl)
 have hA2 : AOk (arnd A₀ κ) 160 := AOk.over (d := 160) (by rw [h2]; exact hA.le (by lia)) hdp
 refine join_gen hg (by have := hA2.depth; lia) ?_
 have hw : notCaller (bi "str.join" [.str (S []) 272, .ref (n + 189)]) = true := by kernel_rfl
 have hd2 : depOk A₀ (.ret (bi "str.join" [.str (S []) 272, .ref (n + 189)]) (fun _ => .unsupported "") κ) := ⟨weight_le hw, by rw [h2]; lia, hdp⟩
 have hA3 : AOk (((arnd A₀ κ).under (bi "str.join" [.str (S []) 272, .ref (n + 189)])).mark none) 140 := AOk.over (d := 140) (by show AOk A₀ (140 + 5 * (κ.len + 1)); rw [h2]; exact hA.le (by lia)) hd2
 have fin : ∀ h' t2 t'', St (B0 (wf (wf2 w b2) b) h₀) h' ((n + 4 + 186, listO [.str (S (x0 ++ y0)) (t2 + 2)] 3) :: (ra + 186, { cls := .ref 152, dict := some (rd + 186), data := .seq ⟨[.ref (p0 + 186)]⟩ re }) :: (rd + 186, dictO 1 [en (wf (wf2 w b2) b) c_iniize rk (.int 0 ist)]) :: (p0 + 186, tupO [.str (S x0) tx0, .str (S y0) ty0]) :: (121, tabO [.int 94 0, .int 32 0, .ref (cx + 186)]) :: r) (n + 13 + 186) →
   ∃ a ep l, Except.ok (Flow.ret (.ref (n + 4 + 186))) = (Except.ok (Flow.ret (.ref a)) : Result) ∧ h'.get? a = some (listO (strValues l) ep) ∧ Builtin.Str.tooLong ((l.map (·.1)).toArray.foldl (· + ·.length + (S []).length) 0) = false ∧
    (joinMade (S []) l).post (fun v s' => endK (B0 (wf (wf2 w b2) b) h₀) A₀ R κ (.ok (.ret v)) s') (sh h' [.finished, .finished, .finished] dr t'' os) := by
  intro h' t2 t'' S'
  have key : ∀ tq tt, endK (B0 (wf (wf2 w b2) b) h₀) A₀ R κ (.ok (.ret (.str (S [x0 ++ y0].flatten) tq))) (sh h' [.finished, .finished, .finished] dr tt os) := fun tq tt => s1cj_t (n2 := n + 13) (t2 := tt) (r2 := (ra + 186, { cls := .ref 152, dict := some (rd + 186), data := .seq ⟨[.ref (p0 + 186)]⟩ re }) :: (rd + 186, dictO 1 [en (wf (wf2 w b2) b) c_iniize rk (.int 0 ist)]) :: (p0 + 186, tupO [.str (S x0) tx0, .str (S y0) ty0]) :: (121, tabO [.int 94 0, .int 32 0, .ref (cx + 186)]) :: r) O (hA.le (by lia)) hκ h1 hdp S'.tl fun h' t' S => next h' _ t' _ tq S
  refine ⟨_, _, [(S (x0 ++ y0), t2 + 2)], rfl, S'.led _ (.head _), tooLong_S [x0 ++ y0] (by simp; lia), ?_⟩
  have e : [x0 ++ y0].flatten = x0 ++ y0 := by simp
  rw [e] at key
  exact key _ _
 refine s1cc_t (n2 := n + 4) (t2 := t') (w := w) (b := b) O hA3 (by lia) S' fun h' t'' S' => ?_
 exact fin h' t' t'' S'
theorem str6a {h₀ : HS} {w : World} {b b2 : Bool} {ra rd re rk ist n t p0 tx0 ty0 p1 tx1 ty1 p2 tx2 ty2 p3 tx3 ty3 p4 tx4 ty4 p5 tx5 ty5 : Nat} {x0 y0 x1 y1 x2 y2 x3 y3 x4 y4 x5 y5 : List Nat} {r : Led} (O : (B0 (wf (wf2 w b2) b) h₀).Ok) {A₀ : Around} (hA : AOk A₀ 170) {R : Result → Shared → Prop} {dr : Drawn} {os : OsState} (hl0 : x0.length + y0.length ≤ 100) (hl1 : x1.length + y1.length ≤ 100) (hl2 : x2.length + y2.length ≤ 100) (hl3 : x3.length + y3.length ≤ 100) (hl4 : x4.length + y4.length ≤ 100) (hl5 : x5.length + y5.length ≤ 100) {h : Heap}
  (S₀ : St (B0 (wf (wf2 w b2) b) h₀) h (r6 (wf (wf2 w b2) b) ra rd re rk ist p0 tx0 ty0 x0 y0 p1 tx1 ty1 x1 y1 p2 tx2 ty2 x2 y2 p3 tx3 ty3 x3 y3 p4 tx4 ty4 x4 y4 p5 tx5 ty5 x5 y5 ((121, tabO []) :: r)) (n + 186))
  (next : ∀ h' n' t' cx tq, St (B0 (wf (wf2 w b2) b) h₀) h' (r6 (wf (wf2 w b2) b) ra rd re rk ist p0 tx0 ty0 x0 y0 p1 tx1 ty1 x1 y1 p2 tx2 ty2 x2 y2 p3 tx3 ty3 x3 y3 p4 tx4 ty4 x4 y4 p5 tx5 ty5 x5 y5 ((121, tabO [.int 94 0, .int 32 0, .ref (cx + 186)]) :: r)) (n' + 186) → R (.ok (.ret (.str (S [x0 ++ y0, x1 ++ y1, x2 ++ y2, x3 ++ y3, x4 ++ y4, x5 ++ y5].flatten) tq))) (sh h' [.finished] dr t' os)) :
  codeAny (model PySem.Challenge.pw_tl0006_01 (wf (wf2 w b2) b)) A₀ (Code.call (.ref 126) ⟨[.ref (ra + 186)], []⟩) R (sh h [] dr t os) := by
 refine s6ar_t O (hA.le (by lia)) S₀ fun κ hκ hdp h1 h2 h' t' S' => ?_
 obtain ⟨g, hg⟩ := isGen_ok (S'.led _ (.head _)) (by kernel_rfl)
 have hA2 : AOk (arnd A₀ κ) 160 := AOk.over (d := 160) (by rw [h2]; exact hA.le (by lia)) hdp
 refine join_gen hg (by have := hA2.depth; lia) ?_
 have hw : notCaller (bi "str.join" [.str (S []) 272, .ref (n + 192)]) = true := by kernel_rfl
 have hd2 : depOk A₀ (.ret (bi "str.join" [.str (S []) 272, .ref (n + 192)]) (fun _ => .unsupported "") κ) := ⟨weight_le hw, by rw [h2]; lia, hdp⟩
 have hA3 : AOk (((arnd A₀ κ).under (bi "str.join" [.str (S []) 272, .ref (n + 192)])).mark none) 140 := AOk.over (d := 140) (by show AOk A₀ (140 + 5 * (κ.len + 1)); rw [h2]; exact hA.le (by lia)) hd2
 have fin : ∀ h' t2 t'', St (B0 (wf (wf2 w b2) b) h₀) h' ((n + 7 + 186, listO [.str (S (x0 ++ y0)) (t2 + 2), .str (S (x1 ++ y1)) (t2 + 5), .str (S (x2 ++ y2)) (t2 + 8), .str (S (x3 ++ y3)) (t2 + 11), .str (S (x4 ++ y4)) (t2 + 14), .str (S (x5 ++ y5)) (t2 + 17)] 8) :: r6 (wf (wf2 w b2) b) ra rd re rk ist p0 tx0 ty0 x0 y0 p1 tx1 ty1 x1 y1 p2 tx2 ty2 x2 y2 p3 tx3 ty3 x3 y3 p4 tx4 ty4 x4 y4 p5 tx5 ty5 x5 y5 ((121, tabO [.int 94 0, .int 32 0, .ref ((n + 4) + 186)]) :: r)) (n + 36 + 186) →
   ∃ a ep l, Except.ok (Flow.ret (.ref (n + 7 + 186))) = (Except.ok (Flow.ret (.ref a)) : Result) ∧ h'.get? a = some (listO (strValues l) ep) ∧ Builtin.Str.tooLong ((l.map (·.1)).toArray.foldl (· + ·.length + (S []).length) 0) = false ∧
    (joinMade (S []) l).post (fun v s' => endK (B0 (wf (wf2 w b2) b) h₀) A₀ R κ (.ok (.ret v)) s') (sh h' [.finished] dr t'' os) := by
  intro h' t2 t'' S'
  have key : ∀ tq tt, endK (B0 (wf (wf2 w b2) b) h₀) A₀ R κ (.ok (.ret (.str (S [x0 ++ y0, x1 ++ y1, x2 ++ y2, x3 ++ y3, x4 ++ y4, x5 ++ y5].flatten) tq))) (sh h' [.finished] dr tt os) := fun tq tt => s6aj_t (n2 := n + 36) (t2 := tt) (r2 := r6 (wf (wf2 w b2) b) ra rd re rk ist p0 tx0 ty0 x0 y0 p1 tx1 ty1 x1 y1 p2 tx2 ty2 x2 y2 p3 tx3 ty3 x3 y3 p4 tx4 ty4 x4 y4 p5 tx5 ty5 x5 y5 ((121, tabO [.int 94 0, .int 32 0, .ref ((n + 4) + 186)]) :: r)) O (hA.le (by lia)) hκ h1 hdp S'.tl fun h' t' S => next h' _ t' _ tq S
  refine ⟨_, _, [(S (x0 ++ y0), t2 + 2), (S (x1 ++ y1), t2 + 5), (S (x2 ++ y2), t2 + 8), (S (x3 ++ y3), t2 + 11), (S (x4 ++ y4), t2 + 14), (S (x5 ++ y5), t2 + 17)], rfl, S'.led _ (.head _), tooLong_S [x0 ++ y0, x1 ++ y1, x2 ++ y2, x3 ++ y3, x4 ++ y4, x5 ++ y5] (by simp; lia), ?_⟩
  have e := glued_S [x0 ++ y0, x1 ++ y1, x2 ++ y2, x3 ++ y3, x4 ++ y4, x5 ++ y5]
  show (Made.str (Builtin.Str.glued (S []) ([x0 ++ y0, x1 ++ y1, x2 ++ y2, x3 ++ y3, x4 ++ y4, x5 ++ y5].map S))).post _ _
  rw [e]
  exact ⟨by show (S _).length ≤ sizeLine; rw [S_len]; have : (1000 : Nat) ≤ sizeLine := by decide +kernel
            simp; lia, key _ _⟩
 refine s6ac_t (n2 := n + 7) (t2 := t') (w := w) (b := b) O hA3 (by lia) (by lia) (by lia) (by lia) (by lia) (by lia) S' fun h' t'' S' => ?_
 exact fin h' t' t'' S'
theorem str6b {h₀ : HS} {w : World} {b b2 : Bool} {ra rd re rk ist n t cx p0 tx0 ty0 p1 tx1 ty1 p2 tx2 ty2 p3 tx3 ty3 p4 tx4 ty4 p5 tx5 ty5 : Nat} {x0 y0 x1 y1 x2 y2 x3 y3 x4 y4 x5 y5 : List Nat} {r : Led} (O : (B0 (wf (wf2 w b2) b) h₀).Ok) {A₀ : Around} (hA : AOk A₀ 170) {R : Result → Shared → Prop} {dr : Drawn} {os : OsState} (hl0 : x0.length + y0.length ≤ 100) (hl1 : x1.length + y1.length ≤ 100) (hl2 : x2.length + y2.length ≤ 100) (hl3 : x3.length + y3.length ≤ 100) (hl4 : x4.length + y4.length ≤ 100) (hl5 : x5.length + y5.length ≤ 100) {h : Heap}
  (S₀ : St (B0 (wf (wf2 w b2) b) h₀) h (r6 (wf (wf2 w b2) b) ra rd re rk ist p0 tx0 ty0 x0 y0 p1 tx1 ty1 x1 y1 p2 tx2 ty2 x2 y2 p3 tx3 ty3 x3 y3 p4 tx4 ty4 x4 y4 p5 tx5 ty5 x5 y5 ((121, tabO [.int 94 0, .int 32 0, .ref (cx + 186)]) :: r)) (n + 186))
  (next : ∀ h' n' t' cx tq, St (B0 (wf (wf2 w b2) b) h₀) h' (r6 (wf (wf2 w b2) b) ra rd re rk ist p0 tx0 ty0 x0 y0 p1 tx1 ty1 x1 y1 p2 tx2 ty2 x2 y2 p3 tx3 ty3 x3 y3 p4 tx4 ty4 x4 y4 p5 tx5 ty5 x5 y5 ((121, tabO [.int 94 0, .int 32 0, .ref (cx + 186)]) :: r)) (n' + 186) → R (.ok (.ret (.str (S [x0 ++ y0, x1 ++ y1, x2 ++ y2, x3 ++ y3, x4 ++ y4, x5 ++ y5].flatten) tq))) (sh h' [.finished, .finished] dr t' os)) :
  codeAny (model PySem.Challenge.pw_tl0006_01 (wf (wf2 w b2) b)) A₀ (Code.call (.ref 126) ⟨[.ref (ra + 186)], []⟩) R (sh h [.finished] dr t os) := by
 refine s6br_t O (hA.le (by lia)) S₀ fun κ hκ hdp h1 h2 h' t' S' => ?_
 obtain ⟨g, hg⟩ := isGen_ok (S'.led _ (.head _)) (by kernel_rfl)
 have hA2 : AOk (arnd A₀ κ) 160 := AOk.over (d := 160) (by rw [h2]; exact hA.le (by lia)) hdp
 refine join_gen hg (by have := hA2.depth; lia) ?_
 have hw : notCaller (bi "str.join" [.str (S []) 272, .ref (n + 189)]) = true := by kernel_rfl
 have hd2 : depOk A₀ (.ret (bi "str.join" [.str (S []) 272, .ref (n + 189)]) (fun _ => .unsupported "") κ) := ⟨weight_le hw, by rw [h2]; lia, hdp⟩
 have hA3 : AOk (((arnd A₀ κ).under (bi "str.join" [.str (S []) 272, .ref (n + 189)])).mark none) 140 := AOk.over (d := 140) (by show AOk A₀ (140 + 5 * (κ.len + 1)); rw [h2]; exact hA.le (by lia)) hd2
 have fin : ∀ h' t2 t'', St (B0 (wf (wf2 w b2) b) h₀) h' ((n + 4 + 186, listO [.str (S (x0 ++ y0)) (t2 + 2), .str (S (x1 ++ y1)) (t2 + 5), .str (S (x2 ++ y2)) (t2 + 8), .str (S (x3 ++ y3)) (t2 + 11), .str (S (x4 ++ y4)) (t2 + 14), .str (S (x5 ++ y5)) (t2 + 17)] 8) :: r6 (wf (wf2 w b2) b) ra rd re rk ist p0 tx0 ty0 x0 y0 p1 tx1 ty1 x1 y1 p2 tx2 ty2 x2 y2 p3 tx3 ty3 x3 y3 p4 tx4 ty4 x4 y4 p5 tx5 ty5 x5 y5 ((121, tabO [.int 94 0, .int 32 0, .ref (cx + 186)]) :: r)) (n + 33 + 186) →
   ∃ a ep l, Except.ok (Flow.ret (.ref (n + 4 + 186))) = (Except.ok (Flow.ret (.ref a)) : Result) ∧ h'.get? a = some (listO (strValues l) ep) ∧ Builtin.Str.tooLong ((l.map (·.1)).toArray.foldl (· + ·.length + (S []).length) 0) = false ∧
    (joinMade (S []) l).post (fun v s' => endK (B0 (wf (wf2 w b2) b) h₀) A₀ R κ (.ok (.ret v)) s') (sh h' [.finished, .finished] dr t'' os) := by
  intro h' t2 t'' S'
  have key : ∀ tq tt, endK (B0 (wf (wf2 w b2) b) h₀) A₀ R κ (.ok (.ret (.str (S [x0 ++ y0, x1 ++ y1, x2 ++ y2, x3 ++ y3, x4 ++ y4, x5 ++ y5].flatten) tq))) (sh h' [.finished, .finished] dr tt os) := fun tq tt => s6bj_t (n2 := n + 33) (t2 := tt) (r2 := r6 (wf (wf2 w b2) b) ra rd re rk ist p0 tx0 ty0 x0 y0 p1 tx1 ty1 x1 y1 p2 tx2 ty2 x2 y2 p3 tx3 ty3 x3 y3 p4 tx4 ty4 x4 y4 p5 tx5 ty5 x5 y5 ((121, tabO [.int 94 0, .int 32 0, .ref (cx + 186)]) :: r)) O (hA.le (by lia)) hκ h1 hdp S'.tl fun h' t' S => next h' _ t' _ tq S
  refine ⟨_, _, [(S (x0 ++ y0), t2 + 2), (S (x1 ++ y1), t2 + 5), (S (x2 ++ y2), t2 + 8), (S (x3 ++ y3), t2 + 11), (S (x4 ++ y4), t2 + 14), (S (x5 ++ y5), t2 + 17)], rfl, S'.led _ (.head _), tooLong_S [x0 ++ y0, x1 ++ y1, x2 ++ y2, x3 ++ y3, x4 ++ y4, x5 ++ y5] (by simp; lia), ?_⟩
  have e := glued_S [x0 ++ y0, x1 ++ y1, x2 ++ y2, x3 ++ y3, x4 ++ y4, x5 ++ y5]
  show (Made.str (Builtin.Str.glued (S []) ([x0 ++ y0, x1 ++ y1, x2 ++ y2, x3 ++ y3, x4 ++ y4, x5 ++ y5].map S))).post _ _
  rw [e]
  exact ⟨by show (S _).length ≤ sizeLine; rw [S_len]; have : (1000 : Nat) ≤ sizeLine := by decide +kernel
            simp; lia, key _ _⟩
 refine s6bc_t (n2 := n + 4) (t2 := t') (w := w) (b := b) O hA3 (by lia) (by lia) (by lia) (by lia) (by lia) (by lia) S' fun h' t'' S' => ?_
 exact fin h' t' t'' S'
section
variable {prog : Program} {w : World}
theorem ora_lt (a b : Int) (t u : Tok) (r : Bool) (h : decide (a < b) = r) : OraOk prog w [] (bi "int.__lt__" [.int a t, .int b u]) (fun _ => .bool r) 0 := by
 subst h; exact ora_val (by decide +kernel) F.entry_int_lt (gives_int_lt a b t u)
theorem ora_gt (a b : Int) (t u : Tok) (r : Bool) (h : decide (a > b) = r) : OraOk prog w [] (bi "int.__gt__" [.int a t, .int b u]) (fun _ => .bool r) 0 := by
 subst h; exact ora_val (by decide +kernel) F.entry_int_gt (gives_int_gt a b t u)
theorem ora_ge (a b : Int) (t u : Tok) (r : Bool) (h : decide (a ≥ b) = r) : OraOk prog w [] (bi "int.__ge__" [.int a t, .int b u]) (fun _ => .bool r) 0 := by
 subst h; exact ora_val (by decide +kernel) F.entry_int_ge (gives_int_ge a b t u)
theorem ora_ne (a b : Int) (t u : Tok) (r : Bool) (h : (a != b) = r) : OraOk prog w [] (bi "int.__ne__" [.int a t, .int b u]) (fun _ => .bool r) 0 := by
 subst h; exact ora_val (by decide +kernel) F.entry_int_ne (gives_int_ne a b t u)
theorem ora_mod (a b : Int) (t u : Tok) (c : Int) (hb : b ≠ 0) (h : a.fmod b = c) : OraOk prog w [] (bi "int.__mod__" [.int a t, .int b u]) (fun t => .int c t) 1 := by
 subst h; exact ora_int (by decide +kernel) F.entry_int_mod (AutoIntG6.int___mod___int_int_1 a t b u (by simpa using hb))
theorem noPylong (a : Int) (b : Int) (h0 : 0 < b) (hb : b < 100) : ¬ (Builtin.divisionGoesByPylong a b) = true := by
 unfold Builtin.divisionGoesByPylong
 have h1 : (b == 0) = false := by simp; lia
 have h2 : b.natAbs.log2 / 30 = 0 := by
  have : b.natAbs < 2 ^ 7 := by lia
  have := Nat.log2_lt (n := b.natAbs) (k := 7) (by lia)
  have : b.natAbs.log2 < 7 := this.mpr (by assumption)
  lia
 simp [h1, h2]
theorem ora_div (a b : Int) (t u : Tok) (c : Int) (h0 : 0 < b) (hb : b < 100) (h : a.fdiv b = c) : OraOk prog w [] (bi "int.__floordiv__" [.int a t, .int b u]) (fun t => .int c t) 1 := by
 subst h; exact ora_int (by decide +kernel) F.entry_int_floordiv (AutoIntG4.int___floordiv___int_int_1 a t b u (by simp; lia) (noPylong a b h0 hb))
theorem ora_str_item (x : List Nat) (i : Nat) (t u : Tok) (c : Nat) (h : x[i]? = some c) (hi : i < 1000) : OraOk prog w [] (bi "str.__getitem__" [.str (S x) t, .int (Int.ofNat i) u]) (fun t => .str (S [c]) t) 1 := by
 have g := gives_str_getitem (S x) (Int.ofNat i) t u c (by simp; lia) (by
  have hl := (List.getElem?_eq_some_iff.mp h).1
  have : seqIndex? (Int.ofNat i) (S x).length = some i := by
   unfold seqIndex?
   rw [S_len]
   simp
   lia
  rw [this]
  simpa using h)
 exact ora_str (by decide +kernel) F.entry_str_getitem g (by show (1 : Nat) ≤ sizeLine; decide +kernel)
theorem rep_fold (c : Nat) : ∀ (k : Nat) (acc : List Nat), (List.replicate k (S [c]).cps).foldl (· ++ ·) ⟨acc⟩ = (⟨acc ++ List.replicate k c⟩ : Array Nat)
 | 0, acc => by simp
 | k + 1, acc => by
  show (List.replicate k (S [c]).cps).foldl (· ++ ·) ((⟨acc⟩ : Array Nat) ++ ⟨[c]⟩) = _
  have : ((⟨acc⟩ : Array Nat) ++ ⟨[c]⟩) = ⟨acc ++ [c]⟩ := by simp
  rw [this, rep_fold c k]
  simp [List.replicate_succ]
theorem ora_str_mul (c : Nat) (k : Nat) (t u : Tok) (hk : 2 ≤ k) (h : k < 1000) : OraOk prog w [] (bi "str.__mul__" [.str (S [c]) t, .int (Int.ofNat k) u]) (fun t => .str (S (List.replicate k c)) t) 1 := by
 have big : (1000 : Nat) ≤ sizeLine := by decide +kernel
 have g := gives_str_mul (S [c]) (Int.ofNat k) t u (by simp; lia) (fun _ _ => by
  rw [S_len]
  have : (1 : Int) ≤ (2 ^ 63 - 1) / Int.ofNat k := by
   rw [Int.le_ediv_iff_mul_le (by simp; lia)]
   simp
   lia
  simp only [List.length_cons, List.length_nil]
  lia) (fun _ _ => by
  rw [S_len]
  unfold Builtin.Str.tooLong
  simp only [List.length_cons, List.length_nil, Int.ofNat_eq_natCast, Int.toNat_natCast, decide_eq_false_iff_not]
  lia)
 have e1 : ¬ (Int.ofNat k < 1) := by simp; lia
 have e2 : (Int.ofNat k == 1 || (S [c]).length == 0) = false := by
  rw [S_len]
  simp
  lia
 rw [if_neg e1, e2, if_neg (by decide)] at g
 have e3 : (⟨(List.replicate (Int.ofNat k).toNat (S [c]).cps).foldl (· ++ ·) #[]⟩ : Str) = S (List.replicate k c) := by
  have := rep_fold c k []
  simp only [List.nil_append] at this
  show Str.mk _ = Str.mk _
  congr 1
 rw [e3] at g
 exact ora_str (by decide +kernel) F.entry_str_mul g (by rw [S_len]; simp; lia)
theorem ora_str_mul1 (c : Nat) (t u : Tok) : OraOk prog w [] (bi "str.__mul__" [.str (S [c]) t, .int (Int.ofNat 1) u]) (fun _ => .str (S [c]) t) 0 := by
 have g := gives_str_mul (S [c]) (Int.ofNat 1) t u (by decide) (fun _ h => by simp at h) (fun _ h => by simp at h)
 exact ora_val (by decide +kernel) F.entry_str_mul g
theorem ora_len {T id : String} {B : Builtin} {v : Value} {n : Nat} {need : Led} (hT : ∀ s : Shared, (∀ p ∈ need, s.heap.get? p.1 = some p.2) → s.TypeIs v T) (slot : Slot T "__len__" id)
  (entry : entryFor table id = some B) (args : argsOk id ⟨[v], []⟩) (g : ∀ h : Heap, (∀ p ∈ need, h.get? p.1 = some p.2) → Gives (B ⟨[v], []⟩) (.int (Int.ofNat n))) (h : n < 1000) : OraOk prog w need (bi "len" [v]) (fun t => .int (Int.ofNat n) (t + 1)) 2 := by
 intro A h₁ gl dr t os R hn hA hR
 refine codeAny_builtin entry_len ?_
 rw [Around.under_plainId plain_len]
 unfold Builtin.«len»
 refine wpAny_bind (m := oneArg "len" _) (wpAny_pure ?_)
 refine wpAny_bind (m := callSpecial? v (Str.ofString "__len__")) (wpAny_callSpecial?_slot (name := Str.ofString "__len__") (hT _ hn) slot (call_gives slot (hT _ hn) entry args (g h₁ hn) ?_))
 refine wpAny_bind (wpAny_holding (wpAny_pure ?_))
 refine wpAny_bind (wpAny_letGo ?_)
 show wpAny _ _ (if Int.ofNat n < 0 then _ else _) _ _ _
 rw [if_neg (by simp)]
 show wpAny _ _ (if Int.ofNat n ≥ 2 ^ 63 then _ else _) _ _ _
 rw [if_neg (by simp; lia)]
 exact wpAny_bind (wpAny_mkInt (wpAny_pure hR))
theorem ora_len_str (x : List Nat) (u : Tok) (h : x.length < 1000) : OraOk prog w [] (bi "len" [.str (S x) u]) (fun t => .int (Int.ofNat x.length) (t + 1)) 2 :=
 ora_len (T := "str") (fun _ _ => typeIs_str _ _ _) slot_str_len F.entry_str_len (args_str_len _) (fun _ _ => by
  have := gives_str_len (S x) u
  rw [S_len] at this
  exact this) h
theorem ora_len_list (l : Addr) (vs : List Value) (ep : Nat) (h : vs.length < 1000) : OraOk prog w [(l, listO vs ep)] (bi "len" [.ref l]) (fun t => .int (Int.ofNat vs.length) (t + 1)) 2 := by
 intro A h₁ gl dr t os R hn hA hR
 have ho : h₁.get? l = some (listO vs ep) := hn _ (.head _)
 have hl : h₁.IsList l ⟨vs⟩ := ⟨_, ho, rfl, _, rfl⟩
 refine codeAny_builtin entry_len ?_
 rw [Around.under_plainId plain_len]
 unfold Builtin.«len»
 refine wpAny_bind (m := oneArg "len" _) (wpAny_pure ?_)
 refine wpAny_bind (m := callSpecial? (.ref l) (Str.ofString "__len__")) (wpAny_callSpecial?_slot (name := Str.ofString "__len__") hl.typeIs slot_list_len
  (wpAny_call_entry slot_list_len hl.typeIs entry_list_len ?_ (args_list_len _)))
 show wpAny _ _ (do retInt (← seqSize l)) _ _ _
 unfold seqSize
 refine wpAny_bind (wpAny_bind (wpAny_load ho ?_))
 show wpAny _ _ (.pure vs.length) _ _ _
 refine wpAny_pure (wpAny_bind (wpAny_mkInt (wpAny_pure ⟨_, rfl, ?_⟩)))
 refine wpAny_bind (wpAny_holding (wpAny_pure ?_))
 refine wpAny_bind (wpAny_letGo ?_)
 show wpAny _ _ (if ((vs.length : Nat) : Int) < 0 then _ else _) _ _ _
 rw [if_neg (by lia)]
 show wpAny _ _ (if ((vs.length : Nat) : Int) ≥ 2 ^ 63 then _ else _) _ _ _
 rw [if_neg (by lia)]
 exact wpAny_bind (wpAny_mkInt (wpAny_pure hR))
theorem ora_list_itemZ (l : Addr) (vs : List Value) (ep : Nat) (k : Int) (u : Nat) (x : Value) (h0 : 0 ≤ k) (hfit : k < 2 ^ 63) (h : vs[k.toNat]? = some x) : OraOk prog w [(l, listO vs ep)] (lgi [.ref l, .int k u]) (fun _ => x) 0 := by
 intro A h₁ gl dr t os R hn hA hR
 have ho : h₁.get? l = some (listO vs ep) := hn _ (.head _)
 have hf := fitsIndex_of h0 hfit
 refine codeAny_builtin entry_list_getitem ?_
 clear hfit
 show wpAny _ _ (Builtin.List.listSubscript? (.int k u) >>= _) _ _ _
 refine wpAny_bind (wpAny_listSubscript_int hf ?_)
 obtain ⟨j, rfl⟩ := Int.eq_ofNat_of_zero_le h0
 show wpAny _ _ ((seqItemAt l j >>= fun r => pure (r.map (j, ·))) >>= _) _ _ _
 refine wpAny_bind (wpAny_bind (wpAny_seqItemAt ho rfl (wpAny_pure ?_)))
 have hx : (⟨vs⟩ : Array Value)[j]? = some x := by simpa using h
 rw [hx]
 first
  | exact wpAny_bind (wpAny_pure (wpAny_pure hR))
  | exact wpAny_pure hR
theorem ora_list_item (l : Addr) (vs : List Value) (ep i u : Nat) (x : Value) (h : vs[i]? = some x) (hi : i < 1000) : OraOk prog w [(l, listO vs ep)] (lgi [.ref l, .int (Int.ofNat i) u]) (fun _ => x) 0 :=
 ora_list_itemZ l vs ep (Int.ofNat i) u x (by simp) (by simp; lia) (by simpa using h)
theorem ora_list_ne (a b : Addr) (l l' : List (Str × Tok)) (e1 e2 : Nat) (heq : l.map (·.1) = l'.map (·.1)) :
  OraOk prog w [(a, listO (strValues l) e1), (b, listO (strValues l') e2)] (bi "list.__ne__" [.ref a, .ref b]) (fun _ => .bool false) 0 := by
 have hlen : l.length = l'.length := by
  have := congrArg List.length heq
  simpa using this
 have hsz : (⟨strValues l⟩ : Array Value).size = (⟨strValues l'⟩ : Array Value).size := by simpa [strValues] using hlen
 refine ora_meets (by decide +kernel) F.entry_list_ne (SeqAt.list_neAt a b ⟨strValues l⟩ ⟨strValues l'⟩ e1 e2 none none #[] #[] hsz (fun _ => true)) fun A R s hn hR => ⟨hn _ (.head _), hn _ (.tail _ (.head _)), ?_, ?_⟩
 ·intro j h1 h2
  have g1 : (strValues l)[j]? = some (⟨strValues l⟩ : Array Value)[j] := by
   have : (strValues l)[j]? = (⟨strValues l⟩ : Array Value)[j]? := by simp
   rw [this]
   exact Array.getElem?_eq_getElem h1
  have g2 : (strValues l')[j]? = some (⟨strValues l'⟩ : Array Value)[j] := by
   have : (strValues l')[j]? = (⟨strValues l'⟩ : Array Value)[j]? := by simp
   rw [this]
   exact Array.getElem?_eq_getElem h2
  have b1 : j < l.length := by simpa [strValues] using h1
  have b2 : j < l'.length := by simpa [strValues] using h2
  have k1 : (strValues l)[j]? = some (.str l[j].1 l[j].2) := by simp [strValues, b1]
  have k2 : (strValues l')[j]? = some (.str l'[j].1 l'[j].2) := by simp [strValues, b2]
  have e1 := Option.some.inj (g1.symm.trans k1)
  have e2 := Option.some.inj (g2.symm.trans k2)
  rw [e1, e2]
  have : l[j].1 = l'[j].1 := by
   have h0 : (l.map (·.1))[j]? = (l'.map (·.1))[j]? := by rw [heq]
   simpa [b1, b2] using h0
  have := SeqAt.EqAt.str_str (A := A.in1) (s := s) l[j].1 l[j].2 l'[j].1 l'[j].2
  rw [show (l[j].1 == l'[j].1) = true by simp [*]] at this
  exact this
 ·have : (List.range (⟨strValues l⟩ : Array Value).size).all (fun _ => true) = true := by simp
  rw [this]
  exact hR
theorem ora_list_index (a : Addr) (l : List (Str × Tok)) (ep : Nat) (x : Str) (t : Tok) (j : Nat) (hj : j < l.length) (hs : j < 1000) (hit : l[j].1 = x) (hno : ∀ m (hm : m < l.length), m < j → l[m].1 ≠ x) :
  OraOk prog w [(a, listO (strValues l) ep)] (bi "list.index" [.ref a, .str x t]) (fun t => .int (Int.ofNat j) t) 1 := by
 have key : ∀ m (hm : m < (⟨strValues l⟩ : Array Value).size), ∃ hm' : m < l.length, (⟨strValues l⟩ : Array Value)[m] = .str l[m].1 l[m].2 := by
  intro m hm
  have b1 : m < l.length := by simpa [strValues] using hm
  refine ⟨b1, ?_⟩
  simp [strValues]
 refine ora_meets (by decide +kernel) F.entry_list_index (SeqAt.list_indexAt a ⟨strValues l⟩ ep none #[] (.str x t) (fun y => match y with | .str y _ => y == x | _ => false) j (by simpa [strValues] using hj) (by lia) ?_ ?_) fun A R s hn hR => ⟨hn _ (.head _), ?_, hR⟩
 ·obtain ⟨_, e⟩ := key j (by simpa [strValues] using hj)
  rw [e]
  simp [hit]
 ·intro m hm hmj
  obtain ⟨b1, e⟩ := key m hm
  rw [e]
  simpa using hno m b1 hmj
 ·intro y hy
  obtain ⟨m, hm, rfl⟩ := Array.mem_iff_getElem.mp hy
  obtain ⟨b1, e⟩ := key m hm
  rw [e]
  exact SeqAt.EqAt.str_str l[m].1 l[m].2 x t
theorem ora_tuple_eq (a b : Addr) (x1 y1 x2 y2 : Str) (t1 u1 t2 u2 : Tok) (r : Bool) (h : ((x1 == x2) && (y1 == y2)) = r) :
  OraOk prog w [(a, tupO [.str x1 t1, .str y1 u1]), (b, tupO [.str x2 t2, .str y2 u2])] (bi "tuple.__eq__" [.ref a, .ref b]) (fun _ => .bool r) 0 := by
 subst h
 refine ora_meets (by decide +kernel) F.entry_tuple_eq (SeqAt.tuple_eqAt a b ⟨[.str x1 t1, .str y1 u1]⟩ ⟨[.str x2 t2, .str y2 u2]⟩ 0 0 none none #[] #[] (fun j => match j with | 0 => x1 == x2 | _ => y1 == y2)) fun A R s hn hR => ⟨hn _ (.head _), hn _ (.tail _ (.head _)), ?_, ?_⟩
 ·intro j h1 h2
  match j, h1, h2 with
  | 0, _, _ => exact SeqAt.EqAt.str_str x1 t1 x2 t2
  | 1, _, _ => exact SeqAt.EqAt.str_str y1 u1 y2 u2
  | j + 2, h, _ => exact absurd h (by simp)
 ·have : ((List.range (min (⟨[Value.str x1 t1, .str y1 u1]⟩ : Array Value).size (⟨[Value.str x2 t2, .str y2 u2]⟩ : Array Value).size)).all (fun j => match j with | 0 => x1 == x2 | _ => y1 == y2) && (⟨[Value.str x1 t1, .str y1 u1]⟩ : Array Value).size == (⟨[Value.str x2 t2, .str y2 u2]⟩ : Array Value).size) = ((x1 == x2) && (y1 == y2)) := by
   simp [List.range_succ]
  rw [this]
  exact hR
theorem ora_tuple_ne (a b : Addr) (x1 y1 x2 y2 : Str) (t1 u1 t2 u2 : Tok) (r : Bool) (h : (!((x1 == x2) && (y1 == y2))) = r) :
  OraOk prog w [(a, tupO [.str x1 t1, .str y1 u1]), (b, tupO [.str x2 t2, .str y2 u2])] (bi "tuple.__ne__" [.ref a, .ref b]) (fun _ => .bool r) 0 := by
 subst h
 refine ora_meets (by decide +kernel) F.entry_tuple_ne (SeqAt.tuple_neAt a b ⟨[.str x1 t1, .str y1 u1]⟩ ⟨[.str x2 t2, .str y2 u2]⟩ 0 0 none none #[] #[] (fun j => match j with | 0 => x1 == x2 | _ => y1 == y2)) fun A R s hn hR => ⟨hn _ (.head _), hn _ (.tail _ (.head _)), ?_, ?_⟩
 ·intro j h1 h2
  match j, h1, h2 with
  | 0, _, _ => exact SeqAt.EqAt.str_str x1 t1 x2 t2
  | 1, _, _ => exact SeqAt.EqAt.str_str y1 u1 y2 u2
  | j + 2, h, _ => exact absurd h (by simp)
 ·have : ((List.range (min (⟨[Value.str x1 t1, .str y1 u1]⟩ : Array Value).size (⟨[Value.str x2 t2, .str y2 u2]⟩ : Array Value).size)).all (fun j => match j with | 0 => x1 == x2 | _ => y1 == y2) && (⟨[Value.str x1 t1, .str y1 u1]⟩ : Array Value).size == (⟨[Value.str x2 t2, .str y2 u2]⟩ : Array Value).size) = ((x1 == x2) && (y1 == y2)) := by
   simp [List.range_succ]
  rw [this]
  exact hR
end
noncomputable def lawEnv (P : Params) (fr : Nat) : Env :=
 { scope := (fdAt P 185).scope, locals := fr + 186, globals := (fdAt P 185).globals, cells := [(S [98, 111, 116, 104], fr + 190), (S [100, 101, 112, 116, 104, 115], fr + 189), (S [119, 101, 105, 103, 104, 116, 115], fr + 188), (S [100, 114, 97, 119, 110], fr + 187)], qual := S [108, 97, 119, 46, 60, 108, 111, 99, 97, 108, 115, 62, 46], func := some 185, code := (fdAt P 185).code, frame := some (fr + 186), builtins := (fdAt P 185).builtins }
noncomputable def lawStmt (P : Params) (i : Nat) : Option Stmt := (fnBody P 185)[i]?
noncomputable def rangeO (m a b c : Nat) : Obj := { cls := .type "range", data := .fields ⟨[.int 0 a, .int (Int.ofNat m) b, .int 1 c]⟩ }
noncomputable def rangeItO (k j : Nat) : Obj := { cls := .type "range_iterator", data := .fields ⟨[.int (Int.ofNat k) 0, .int (Int.ofNat j) 0, .int 1 0]⟩ }
noncomputable def cell0 : Obj := { cls := .type "cell", data := .cell none }
noncomputable def pcEnv (P : Params) (fr : Nat) : Env := envAt P 170 (fr + 186) [95, 108, 97, 119, 95, 112, 105, 101, 99, 101, 115, 46, 60, 108, 111, 99, 97, 108, 115, 62, 46]
noncomputable def pcStmt (P : Params) (i : Nat) : Option Stmt := (fnBody P 170)[i]?
theorem ora_len_list' {prog : Program} {w : World} (l : Addr) (vs : List Value) (ep m : Nat) (hm : vs.length = m) (h : m < 1000) : OraOk prog w [(l, listO vs ep)] (bi "len" [.ref l]) (fun t => .int (Int.ofNat m) (t + 1)) 2 := by
 subst hm; exact ora_len_list l vs ep h
theorem nnb {x : Bool} (h : ¬ (!x) = true) : x = true := by
 cases x with
 | true => rfl
 | false => exact absurd rfl h
theorem range_iter {B : Base} {A : Around} {R : Result → Shared → Prop} {dr : Drawn} {os : OsState} {gl : List GenState} {l : Led} {n t m a b c : Nat} {r : Addr} {h : Heap} (hm : m < 1000) (S : St B h l n) (hr : (r, rangeO m a b c) ∈ l)
  (next : ∀ h', St B h' ((n, rangeItO 0 m) :: l) (n + 1) → R (.ok (.ret (.ref n))) (sh h' gl dr t os)) :
  codeAny (model B.V.prog B.V.w) A (bi "range.__iter__" [.ref r]) R (sh h gl dr t os) := by
 have ho : h.get? r = some (rangeO m a b c) := S.led _ hr
 have hs : Builtin.Range.rangeSize 0 (Int.ofNat m) 1 = m := by
  unfold Builtin.Range.rangeSize
  simp
  lia
 have hc : ¬(!(Builtin.Range.rangeFitsLong 0 && Builtin.Range.rangeFitsLong (Int.ofNat m) && Builtin.Range.rangeFitsLong 1 && Builtin.Range.rangeFitsLong (Builtin.Range.rangeSize 0 (Int.ofNat m) 1) && (Builtin.Range.rangeSize 0 (Int.ofNat m) 1 == 0 || if (1 : Int) > 0 then Builtin.Range.rangeFitsLong ((Int.ofNat m) + (1 - 1)) else Builtin.Range.rangeFitsLong ((Int.ofNat m) + (1 + 1))))) = true := by
  rw [hs]
  unfold Builtin.Range.rangeFitsLong
  simp
  lia
 refine codeAny_builtin (F.entry_range_iter) ?_
 rw [Around.under_plainId (by decide +kernel)]
 refine AutoRange.range___iter___range_1 r 0 (Int.ofNat m) 1 a b c hc B.V.prog B.V.w A R _ ⟨ho, ?_⟩
 have hc' : (Builtin.Range.rangeFitsLong 0 && Builtin.Range.rangeFitsLong (Int.ofNat m) && Builtin.Range.rangeFitsLong 1 && Builtin.Range.rangeFitsLong (Builtin.Range.rangeSize 0 (Int.ofNat m) 1) && (Builtin.Range.rangeSize 0 (Int.ofNat m) 1 == 0 || if (1 : Int) > 0 then Builtin.Range.rangeFitsLong ((Int.ofNat m) + (1 - 1)) else Builtin.Range.rangeFitsLong ((Int.ofNat m) + (1 + 1)))) = true := nnb hc
 rw [if_pos hc', hs]
 have e : h.objs.size = n := S.size
 subst e
 exact next _ (S.alloc (o := rangeItO 0 m) rfl)
noncomputable def nA : Nat → Nat
 | 0 => 33
 | 1 => 91
 | 2 => 34
 | 3 => 9
 | 4 => 8
 | _ => 31
noncomputable def nB : Nat → Nat
 | 0 => 96
 | 1 => 97
 | 2 => 98
 | 3 => 99
 | 4 => 100
 | _ => 101
theorem isLet_nB {i : Nat} : isLet (nB i + 1) = true := by
 unfold nB
 split <;> rfl
noncomputable def ktk (k a b : Nat) : Nat := match k with
 | 0 => a
 | _ + 1 => b
theorem six_k {k : Nat} (h : k < 6) : k = 0 ∨ k = 1 ∨ k = 2 ∨ k = 3 ∨ k = 4 ∨ k = 5 := by lia
noncomputable def ktL (w : World) (b : Bool) (n j f : Nat) (ls : List Nat) (qs : List (Nat × Act)) (l : Led) : RK := (run (V0 (wf w b)) f ls qs (.func (fnBody (wf w b).params 185) (lawEnv (wf w b).params n)) none .base (funcQ ((fnBody (wf w b).params 185).drop j) (lawEnv (wf w b).params n)) l 0 0 [] Acc.nil Acc.nil).kont
noncomputable def ktS (w : World) (b : Bool) (n r j : Nat) (ls nm : List Nat) : RK := ktL w b n j 24 ls [(4, .cut)] [(n + 186, frameO 1 [en (wf w b) nm 0 (.ref r)]), (r, { cls := .ref 152, dict := some 0, data := .seq ⟨[]⟩ 0 })]
noncomputable def kt3 (w : World) (b : Bool) (n r : Nat) : RK := ktS w b n r 7 [0, 0, 0, 1, 2, 0, 0, 0, 0] [114, 111, 119]
noncomputable def kt8 (w : World) (b : Bool) (n r : Nat) : RK := ktS w b n r 18 [0, 0, 1, 2, 0, 0, 0, 0] c_pile
noncomputable def kt4 (w : World) (b : Bool) (n : Nat) : RK := ktL w b n 9 18 [1, 2, 2, 2, 1] [(2, .cut)] [(n + 186, frameO 1 [en (wf w b) c_names 0 (.ref (n + 187))]), (n + 187, listO [] 0)]
noncomputable def kt6 (w : World) (b : Bool) (n : Nat) : RK := ktL w b n 14 24 [0, 0, 1, 1, 1, 1] [(0, .ora [] [] default (fun _ => .ref (n + 187)) 0), (2, .cut)] [(n + 187, listO [] 0)]
noncomputable def kt7 (w : World) (b : Bool) (n : Nat) : RK := ktL w b n 17 18 [1, 2, 2, 2, 1] [(2, .cut)] [(n + 189, cellO (.ref (n + 187))), (n + 187, listO [] 0)]
noncomputable def forU (s : Option Stmt) (i : Nat) (it : Value) (env : Env) : Sem PySem.Fin := match s with
 | some (.For t _ b o _) => PySem.W.R.onRaiseR (bnd (execsQ env (b.drop i)) fun f => match f with
  | .next => .pure (.again (.forLoop t it b o env))
  | .cont => .pure (.again (.forLoop t it b o env))
  | .brk => .pure (.done .next)
  | .ret v => .pure (.done (.ret v))) (tailR env)
 | _ => default
noncomputable def kuL (w : World) (b : Bool) (n it i j f : Nat) (ls : List Nat) (qs : List (Nat × Act)) (l : Led) : RK := (run (V0 (wf w b)) f ls qs (forOf (lawStmt (wf w b).params i) (it + 186) (lawEnv (wf w b).params n)) none .base (forU (lawStmt (wf w b).params i) j (.ref (it + 186)) (lawEnv (wf w b).params n)) l 0 0 [] Acc.nil Acc.nil).kont
noncomputable def ktn (w : World) (b : Bool) (n it : Nat) : RK := kuL w b n it 14 12 36 [1, 1, 3, 3, 3, 3, 3, 3, 3, 3, 3, 1] [(0, .ora [] [] default (fun _ => .ref (n + 187)) 0), (0, .ora [] [] default (fun _ => .ref (n + 187)) 0), (2, .cut)] [(n + 186, frameO 1 [en (wf w b) c_moved 0 (.ref (n + 187)), en (wf w b) [111, 102, 102] 0 (.ref (n + 187))]), (n + 187, listO [] 0)]
noncomputable def kpi (w : World) (b : Bool) (n it : Nat) : RK := kuL w b n it 17 2 4 [] [(0, .cut)] []
theorem pick_head {p : Addr × Obj} {rest : Led} : ∀ {idx : List Nat} {l : Led}, pick l idx = p :: rest → ∃ i, l[i]? = some p ∧ ∀ o, setAll l idx [o] = l.set i (p.1, o)
 | [], l, h => by cases h
 | i :: is, l, h => by
  cases q : l[i]? with
  | some x =>
   rw [pick_cons_some q] at h
   injection h with h1 h2
   subst h1
   refine ⟨i, q, fun o => ?_⟩
   unfold setAll
   rw [q]
   cases is <;> rfl
  | none =>
   rw [pick_cons_none q] at h
   obtain ⟨j, hj, hs⟩ := pick_head h
   refine ⟨j, hj, fun o => ?_⟩
   unfold setAll
   rw [q]
   exact hs o
theorem setAll_nil {l : Led} {idx : List Nat} : setAll l idx [] = l := by cases idx <;> rfl
theorem mov_tree {V : RV} {id : String} {args : Args} {bi : Builtin} {idx : List Nat} {need : Led} {v : Nat → Nat → Result} {d : Nat} {ups : List Obj} {news : Nat → List Obj} (hp : plainId id = true) (hb : entryFor table id = some bi)
  (m : ∀ (B : Base), B.V = V → ∀ (A : Around) (h : Heap) (gl : List GenState) (dr : Drawn) (t : Nat) (os : OsState) (R : Result → Shared → Prop) (l : Led) (n : Nat), pick l idx = need → A.handled = none → St B h l n →
   (∀ h', St B h' (pushAll n (news n) (setAll l idx ups)) (n + (news n).length) → R (v n t) ⟨h', ⟨gl⟩, dr, t + d, os⟩) →
   wpAny (model V.prog V.w) A.in1 (bi args) (fun fin s' => match fin with | .done f => R (.ok f) s' | .again c' => c'.quiet = true ∧ codeAny (model V.prog V.w) A c' R s') (fun e s' => R (.error e) s') (sh h gl dr t os)) :
  MovOk V idx need (.builtin id args) v d ups news := by
 intro B hB A h gl dr t os R l n hpk hA dep un S next
 refine codeAny_builtin hb ?_
 rw [Around.under_plainId hp]
 exact m B hB A h gl dr t os R l n hpk hA S next
section
variable {V : RV}
theorem mov_list_add (a b : Addr) (vs vs2 : List Value) (ep ep2 : Nat) {idx : List Nat} (hz : vs.length + vs2.length < 1000) :
  MovOk V idx [(a, listO vs ep), (b, listO vs2 ep2)] (bi "list.__add__" [.ref a, .ref b]) (fun n _ => .ok (.ret (.ref n))) 0 [] fun _ => [listO (vs ++ vs2) 0] := by
 have big : (1000 : Nat) ≤ sizeLine := by decide +kernel
 refine mov_tree (by decide +kernel) F.entry_list_add fun B hB A h gl dr t os R l n hpk hA S next => ?_
 have ha : h.get? a = some (listO vs ep) := S.led _ (pick_mem (by rw [hpk]; exact .head _))
 have hb : h.get? b = some (listO vs2 ep2) := S.led _ (pick_mem (by rw [hpk]; exact .tail _ (.head _)))
 have e := S.size
 subst e
 have M := AutoSeq1.list___add___list_list_0 a ⟨vs⟩ ep b ⟨vs2⟩ ep2 (by simp; lia) V.prog V.w A R (sh h gl dr t os) ⟨ha, hb, ?_⟩
 ·exact M
 ·have := next _ (S.alloc (o := listO (vs ++ vs2) 0) rfl |> fun z => by rw [setAll_nil]; exact z)
  simpa [listO] using this
end
inductive PartN : Value → Option Nat → Prop
 | none : PartN .none none
 | nat (i : Nat) (t : Tok) : PartN (.int (Int.ofNat i) t) (some i)
noncomputable def takeN (hi : Option Nat) (vs : List Value) : List Value := match hi with
 | some j => vs.take j
 | none => vs
noncomputable def sliceN (lo hi : Option Nat) (vs : List Value) : List Value := (takeN hi vs).drop (lo.getD 0)
theorem slicePick_nat (vs : List Value) (lo hi : Option Nat) : slicePick ⟨vs⟩ (lo.map Int.ofNat) (hi.map Int.ofNat) none = ⟨sliceN lo hi vs⟩ := by
 cases lo with
 | none => cases hi with
  | none => exact slicePick_all ⟨vs⟩
  | some b => exact slicePick_upto' ⟨vs⟩ b
 | some a => cases hi with
  | none => exact slicePick_from' ⟨vs⟩ a
  | some b =>
   refine (slicePick_plain ⟨vs⟩ (some (a : Int)) (some (b : Int))).trans (congrArg _ ?_)
   show (vs.drop (clipAt vs.length a)).take (clipAt vs.length b - clipAt vs.length a) = (vs.take b).drop a
   rw [clipAt_nat, clipAt_nat]
   rcases Nat.le_total vs.length b with h | h
   ·rw [Nat.min_eq_right h, List.take_of_length_le h, List.take_of_length_le (Nat.le_of_eq List.length_drop)]
    rcases Nat.le_total vs.length a with g | g
    ·rw [Nat.min_eq_right g, List.drop_length, List.drop_of_length_le g]
    ·rw [Nat.min_eq_left g]
   ·rw [Nat.min_eq_left h]
    rcases Nat.le_total vs.length a with g | g
    ·rw [Nat.min_eq_right g, List.drop_length, List.drop_of_length_le (Nat.le_trans (List.length_take_le' ..) g), List.take_nil]
    ·rw [Nat.min_eq_left g, List.drop_take]
noncomputable def sliceO (l u : Value) : Obj := { cls := .type "slice", data := .fields ⟨[l, u, .none]⟩ }
theorem wp_slice {prog : Program} {w : World} {A : Around} {E : Value → Shared → Prop} {s : Shared} {sl : Addr} {vl vu : Value} {lo hi : Option Nat} {vs : List Value} {ep : Nat} {l : Addr} {o : Obj} {Q : PySem.Fin → Shared → Prop}
  (ho : s.heap.get? l = some o) (hd : o.data = .seq ⟨vs⟩ ep) (hs : s.heap.get? sl = some (sliceO vl vu)) (pl : PartN vl lo) (pu : PartN vu hi) (hz : vs.length < 1000)
  (h : Q (.done (.ret (.ref s.heap.objs.size))) { s with heap := s.heap.push (listO (sliceN lo hi vs) 0) }) :
  wpAny (model prog w) A (Builtin.«list.__getitem__» ⟨[.ref l, .ref sl], []⟩) Q E s := by
 have big : (1000 : Nat) ≤ sizeLine := by decide +kernel
 have hTs : s.TypeIs (.ref sl) "slice" := ⟨_, hs, rfl⟩
 have ql : IsPart vl (lo.map Int.ofNat) := by cases pl; exact .none; exact .int _ _
 have qu : IsPart vu (hi.map Int.ofNat) := by cases pu; exact .none; exact .int _ _
 show wpAny _ _ (Builtin.List.listSubscript? (.ref sl) >>= _) _ _ s
 refine wpAny_bind ?_
 unfold Builtin.List.listSubscript?
 refine wpAny_bind (wpAny_specialOf hTs slice_no_index ?_)
 simp only [Option.isNone_none, if_true]
 refine wpAny_pure ?_
 show wpAny _ _ (typeOf (.ref sl) >>= _) _ _ s
 refine wpAny_bind (wpAny_typeOf hTs ?_)
 rw [if_neg (by decide)]
 rw [listSliceParts_eq]
 refine wpAny_bind (wpAny_bind (wpAny_field hs rfl (x := .none) rfl (wpAny_bind (wpAny_listPart .none ?_))))
 rw [if_neg (show ¬ ((rawPart none == rawInt 0) = true) from Bool.false_ne_true)]
 refine wpAny_bind (wpAny_field hs rfl (x := vl) rfl (wpAny_bind (wpAny_listPart ql ?_)))
 refine wpAny_bind (wpAny_field hs rfl (x := vu) rfl (wpAny_bind (wpAny_listPart qu (wpAny_pure ?_))))
 refine wpAny_bind (m := Builtin.List.listItems (.ref l)) ?_
 unfold Builtin.List.listItems
 refine wpAny_bind (wpAny_seqItems ho hd (wpAny_pure ?_))
 refine wpAny_bind (wpAny_of_eq (sliceIndices_raw _ _ none _ (by simp)) ?_)
 have hz2 := slicePick_size_le ⟨vs⟩ (lo.map Int.ofNat) (hi.map Int.ofNat) none
 have hz3 : (⟨vs⟩ : Array Value).size = vs.length := rfl
 refine wpAny_bind (wpAny_newObj_type (wpAny_pure ?_) (Nat.le_trans hz2 (by rw [hz3]; lia)))
 have e := slicePick_nat vs lo hi
 unfold slicePick at e
 rw [e]
 exact h
theorem mov_slice {V : RV} (l sl : Addr) (o : Obj) (vs : List Value) (ep : Nat) (vl vu : Value) (lo hi : Option Nat) {idx : List Nat} (hd : o.data = .seq ⟨vs⟩ ep) (pl : PartN vl lo) (pu : PartN vu hi) (hz : vs.length < 1000) :
  MovOk V idx [(l, o), (sl, sliceO vl vu)] (lgi [.ref l, .ref sl]) (fun n _ => .ok (.ret (.ref n))) 0 [] fun _ => [listO (sliceN lo hi vs) 0] := by
 refine mov_tree (by decide +kernel) F.entry_list_getitem fun B hB A h gl dr t os R l n hpk hA S next => ?_
 have ho := S.led _ (pick_mem (by rw [hpk]; exact .head _))
 have hs := S.led _ (pick_mem (by rw [hpk]; exact .tail _ (.head _)))
 have e := S.size
 subst e
 refine wp_slice ho hd hs pl pu hz ?_
 exact next _ (S.alloc (o := listO (sliceN lo hi vs) 0) rfl |> fun z => by rw [setAll_nil]; exact z)
theorem upd_next {B : Base} {h : Heap} {l : Led} {n : Nat} (S : St B h l n) {idx : List Nat} {a : Addr} {o o' : Obj} {rest : Led} (hpk : pick l idx = (a, o) :: rest) {f : Obj → Obj} (hf : f o = o') (hfr : o'.isFreed = false) : St B (h.update a f) (setAll l idx [o']) n := by
 obtain ⟨i, hi, hs⟩ := pick_head hpk
 rw [hs, ← hf]
 exact S.update hi (by rw [hf]; exact hfr)
noncomputable def saiO (x : List Nat) (t j : Nat) : Obj := { cls := .type "str_ascii_iterator", data := .fields ⟨[.str (S x) t, .int (Int.ofNat j) 0]⟩ }
noncomputable def saiE (j : Nat) : Obj := { cls := .type "str_ascii_iterator", data := .fields ⟨[.none, .int (Int.ofNat j) 0]⟩ }
noncomputable def stopO (n : Nat) : Obj := { cls := .type "StopIteration", data := .fields ⟨[.ref n, .none, .none, .none, .bool false, .none]⟩ }
theorem mov_str_iter {V : RV} (x : List Nat) (t : Nat) {idx : List Nat} (ha : x.all (fun c => decide (c < 128)) = true) : MovOk V idx [] (bi "str.__iter__" [.str (S x) t]) (fun n _ => .ok (.ret (.ref n))) 0 [] fun _ => [saiO x t 0] := by
 refine mov_tree (by decide +kernel) F.entry_str_iter fun B hB A h gl dr t' os R l n hpk hA S next => ?_
 have e := S.size
 subst e
 have hx : (Builtin.Str.isExactStr (.str (Mine.S x) t) && (Mine.S x).cps.all (· < 128)) = true := by
  show (true && (⟨x⟩ : Array Nat).all (· < 128)) = true
  rw [Bool.true_and]
  simpa using ha
 show wpAny _ _ (newFields (if (Builtin.Str.isExactStr (.str (Mine.S x) t) && (Mine.S x).cps.all (· < 128)) = true then "str_ascii_iterator" else "str_iterator") [.str (Mine.S x) t, rawInt 0] >>= _) _ _ _
 rw [if_pos hx]
 unfold newFields
 refine wpAny_bind (wpAny_newObj_type (wpAny_pure ?_) (by size_fits))
 exact next _ (by rw [setAll_nil]; exact S.alloc (o := saiO x t 0) rfl)
theorem mov_sai_next {V : RV} (x : List Nat) (it t i c : Nat) {idx : List Nat} (hx : x[i]? = some c) : MovOk V idx [(it, saiO x t i)] (bi "str_ascii_iterator.__next__" [.ref it]) (fun _ t => .ok (.ret (.str (S [c]) t))) 1 [saiO x t (i + 1)] fun _ => [] := by
 refine mov_tree (by decide +kernel) F.entry_str_ascii_iterator_next fun B hB A h gl dr t' os R l n hpk hA S next => ?_
 have ho : h.get? it = some (saiO x t i) := S.led _ (pick_mem (by rw [hpk]; exact .head _))
 have hx' : (Mine.S x).cps[i]? = some c := by simpa using hx
 show wpAny _ _ (field (.ref it) 0 >>= _) _ _ _
 refine wpAny_bind (wpAny_field ho rfl (x := .str (Mine.S x) t) rfl ?_)
 show wpAny _ _ (field (.ref it) 1 >>= _) _ _ _
 refine wpAny_bind (wpAny_field ho rfl (x := .int (Int.ofNat i) 0) rfl ?_)
 simp only [Int.ofNat_eq_natCast, Int.toNat_natCast, hx']
 refine wpAny_bind (wpAny_setField ho rfl (by simp) (wpAny_bind (wpAny_mkStr (wpAny_pure ?_))))
 exact next _ (upd_next S hpk rfl rfl)
theorem big1000 : (1000 : Nat) ≤ sizeLine := by decide +kernel
noncomputable def epOf (n m ep : Nat) : Nat := if (m == n) = true then ep else ep + 1
theorem mapSeq_eq (c : Value) (d : Option Addr) (vs : List Value) (ep : Nat) (f : Array Value → Array Value) (ys : List Value) (h : f ⟨vs⟩ = ⟨ys⟩) : Obj.mapSeq f { cls := c, dict := d, data := .seq ⟨vs⟩ ep } = { cls := c, dict := d, data := .seq ⟨ys⟩ (epOf vs.length ys.length ep) } := by
 show (⟨c, d, .seq (f ⟨vs⟩) (if (f ⟨vs⟩).size == (⟨vs⟩ : Array Value).size then ep else ep + 1), #[]⟩ : Obj) = _
 rw [h]
 rfl
theorem mov_append {V : RV} (l : Addr) (c : Value) (d : Option Addr) (vs : List Value) (ep : Nat) (x : Value) {idx : List Nat} {rest : Led} (hz : vs.length < 1000) :
  MovOk V idx ((l, { cls := c, dict := d, data := .seq ⟨vs⟩ ep }) :: rest) (bi "list.append" [.ref l, x]) (fun _ _ => .ok (.ret .none)) 0 [{ cls := c, dict := d, data := .seq ⟨vs ++ [x]⟩ (ep + 1) }] fun _ => [] := by
 refine mov_tree (by decide +kernel) F.entry_list_append fun B hB A h gl dr t' os R l' n hpk hA S next => ?_
 have ho := S.led _ (pick_mem (by rw [hpk]; exact .head _))
 have hb := big1000
 show wpAny _ _ (updateSeq l (·.push x) >>= _) _ _ _
 refine wpAny_bind (wpAny_updateSeq ho rfl (wpAny_pure ?_) (by show vs.length ≤ sizeLine; lia) (by simp; lia))
 refine next _ (upd_next S hpk ?_ rfl)
 rw [mapSeq_eq c d vs ep _ (vs ++ [x]) (by simp)]
 have : epOf vs.length (vs ++ [x]).length ep = ep + 1 := by unfold epOf; simp
 rw [this]
theorem mov_pop {V : RV} (l : Addr) (c : Value) (d : Option Addr) (vs : List Value) (ep : Nat) (x : Value) {idx : List Nat} {rest : Led} (hz : vs.length < 1000) :
  MovOk V idx ((l, { cls := c, dict := d, data := .seq ⟨vs ++ [x]⟩ ep }) :: rest) (bi "list.pop" [.ref l]) (fun _ _ => .ok (.ret x)) 0 [{ cls := c, dict := d, data := .seq ⟨vs⟩ (ep + 1) }] fun _ => [] := by
 refine mov_tree (by decide +kernel) F.entry_list_pop fun B hB A h gl dr t' os R l' n hpk hA S next => ?_
 have ho := S.led _ (pick_mem (by rw [hpk]; exact .head _))
 have hb := big1000
 show wpAny _ _ (Builtin.List.listItems (.ref l) >>= _) _ _ _
 refine wpAny_bind ?_
 unfold Builtin.List.listItems
 refine wpAny_bind (wpAny_seqItems ho rfl (wpAny_pure ?_))
 have he : (vs ++ [x]).eraseIdx vs.length = vs := by
  rw [List.eraseIdx_append_of_length_le (Nat.le_refl _)]
  simp
 have h1 : (⟨vs ++ [x]⟩ : Array Value).isEmpty = false := by simp
 have h2 : (seqIndex? (-1) (⟨vs ++ [x]⟩ : Array Value).size).bind (fun k => (⟨vs ++ [x]⟩ : Array Value)[k]?.map (k, ·)) = some (vs.length, x) := by
  have : seqIndex? (-1) (⟨vs ++ [x]⟩ : Array Value).size = some vs.length := by
   unfold seqIndex?
   simp
   lia
  rw [this]
  simp
 rw [h1, if_neg Bool.false_ne_true]
 rw [h2]
 refine wpAny_bind (m := updateSeq l (fun xs => xs.eraseIdxIfInBounds vs.length)) (wpAny_updateSeq ho rfl (wpAny_pure ?_) (by show (vs ++ [x]).length ≤ sizeLine; simp; lia) ?_)
 ·refine next _ (upd_next S hpk ?_ rfl)
  rw [mapSeq_eq c d (vs ++ [x]) ep _ vs (by simp [Array.eraseIdxIfInBounds, he])]
  have : epOf (vs ++ [x]).length vs.length ep = ep + 1 := by unfold epOf; simp
  rw [this]
 ·show (Array.eraseIdxIfInBounds _ _).size ≤ _
  simp [Array.eraseIdxIfInBounds, he]
  lia
noncomputable def liO (l i : Nat) : Obj := { cls := .type "list_iterator", data := .fields ⟨[.ref l, .int (Int.ofNat i) 0]⟩ }
noncomputable def liE (i : Nat) : Obj := { cls := .type "list_iterator", data := .fields ⟨[.none, .int (Int.ofNat i) 0]⟩ }
theorem mov_li_next {V : RV} (it l i : Addr) (o : Obj) (vs : List Value) (ep : Nat) (x : Value) {idx : List Nat} (hd : o.data = .seq ⟨vs⟩ ep) (hx : vs[i]? = some x) :
  MovOk V idx [(it, liO l i), (l, o)] (bi "list_iterator.__next__" [.ref it]) (fun _ _ => .ok (.ret x)) 0 [liO l (i + 1)] fun _ => [] := by
 refine mov_tree (by decide +kernel) entry_listiter_next fun B hB A h gl dr t' os R l' n hpk hA S next => ?_
 have ho : h.get? it = some (liO l i) := S.led _ (pick_mem (by rw [hpk]; exact .head _))
 have hl : h.get? l = some o := S.led _ (pick_mem (by rw [hpk]; exact .tail _ (.head _)))
 show wpAny _ _ (field (.ref it) 0 >>= _) _ _ _
 refine wpAny_bind (wpAny_field ho rfl (x := .ref l) rfl ?_)
 show wpAny _ _ (field (.ref it) 1 >>= _) _ _ _
 refine wpAny_bind (wpAny_field ho rfl (x := .int (Int.ofNat i) 0) rfl ?_)
 show wpAny _ _ (seqItems? (.ref l) >>= _) _ _ _
 refine wpAny_bind (wpAny_seqItems hl hd ?_)
 have hx' : (⟨vs⟩ : Array Value)[(Int.ofNat i).toNat]? = some x := by simpa using hx
 simp only [hx']
 refine wpAny_bind (wpAny_setField ho rfl (by simp) (wpAny_pure ?_))
 exact next _ (upd_next S hpk rfl rfl)
theorem wp_stop {B : Base} {A : Around} {h : Heap} {gl : List GenState} {dr : Drawn} {t : Nat} {os : OsState} {Q : PySem.Fin → Shared → Prop} {R : Result → Shared → Prop} {l : Led} {n : Nat} (hA : A.handled = none) (S : St B h l n)
  (next : ∀ h', St B h' ((n + 1, stopO n) :: (n, tupO []) :: l) (n + 2) → R (.error (.ref (n + 1))) (sh h' gl dr t os)) :
  wpAny (model B.V.prog B.V.w) A (newExc (.type "StopIteration") [] >>= fun e => (raiseNew e : Sem PySem.Fin)) Q (fun e s' => R (.error e) s') (sh h gl dr t os) := by
 have e := S.size
 subst e
 refine wpAny_bind ?_
 simp only [newExc, newTuple]
 refine wpAny_bind (wpAny_newObj_type ?_ (by size_fits))
 refine wpAny_bind (m := firstArgMember _ _) (wpAny_of_eq (a := Value.none) (by first | rfl | (simp only [firstArgMember]; rfl)) ?_)
 refine wpAny_newObj_type ?_ (by size_fits)
 refine wpAny_raiseNew_none hA ?_
 have S1 := S.alloc (o := tupO []) rfl
 have S2 := S1.alloc (o := stopO h.objs.size) rfl
 have es : (h.push (tupO [])).objs.size = h.objs.size + 1 := S1.size
 have := next _ S2
 rw [← es] at this
 exact this
theorem mov_sai_end {V : RV} (x : List Nat) (it t i : Nat) {idx : List Nat} (hx : x[i]? = none) : MovOk V idx [(it, saiO x t i)] (bi "str_ascii_iterator.__next__" [.ref it]) (fun n _ => .error (.ref (n + 1))) 0 [saiE i] fun n => [tupO [], stopO n] := by
 refine mov_tree (by decide +kernel) F.entry_str_ascii_iterator_next fun B hB A h gl dr t' os R l n hpk hA S next => ?_
 have ho : h.get? it = some (saiO x t i) := S.led _ (pick_mem (by rw [hpk]; exact .head _))
 have hx' : (Mine.S x).cps[i]? = none := by simpa using hx
 show wpAny _ _ (field (.ref it) 0 >>= _) _ _ _
 refine wpAny_bind (wpAny_field ho rfl (x := .str (Mine.S x) t) rfl ?_)
 show wpAny _ _ (field (.ref it) 1 >>= _) _ _ _
 refine wpAny_bind (wpAny_field ho rfl (x := .int (Int.ofNat i) 0) rfl ?_)
 simp only [Int.ofNat_eq_natCast, Int.toNat_natCast, hx']
 refine wpAny_bind (wpAny_rule (wpAny_bind (wpAny_setField ho rfl (by simp) (wpAny_bind (wpAny_letGo ?_)))))
 subst hB
 exact wp_stop hA (upd_next S hpk rfl rfl) next
theorem mov_li_end {V : RV} (it l i : Addr) (o : Obj) (vs : List Value) (ep : Nat) {idx : List Nat} (hd : o.data = .seq ⟨vs⟩ ep) (hx : vs[i]? = none) :
  MovOk V idx [(it, liO l i), (l, o)] (bi "list_iterator.__next__" [.ref it]) (fun n _ => .error (.ref (n + 1))) 0 [liE i] fun n => [tupO [], stopO n] := by
 refine mov_tree (by decide +kernel) entry_listiter_next fun B hB A h gl dr t' os R l' n hpk hA S next => ?_
 have ho : h.get? it = some (liO l i) := S.led _ (pick_mem (by rw [hpk]; exact .head _))
 have hl : h.get? l = some o := S.led _ (pick_mem (by rw [hpk]; exact .tail _ (.head _)))
 show wpAny _ _ (field (.ref it) 0 >>= _) _ _ _
 refine wpAny_bind (wpAny_field ho rfl (x := .ref l) rfl ?_)
 show wpAny _ _ (field (.ref it) 1 >>= _) _ _ _
 refine wpAny_bind (wpAny_field ho rfl (x := .int (Int.ofNat i) 0) rfl ?_)
 show wpAny _ _ (seqItems? (.ref l) >>= _) _ _ _
 refine wpAny_bind (wpAny_seqItems hl hd ?_)
 have hx' : (⟨vs⟩ : Array Value)[(Int.ofNat i).toNat]? = none := by simpa using hx
 simp only [hx']
 refine wpAny_bind (wpAny_rule (wpAny_bind (wpAny_setField ho rfl (by show 0 < (2 : Nat); decide) ?_)))
 subst hB
 exact wp_stop hA (upd_next S hpk rfl rfl) next
noncomputable def L0_q (w : World) (b : Bool) (sc ep n t m : Nat) (vs : List Value) (r : Led) : List (Nat × Act) := [(2, .ora [6] [(sc, listO ((vs)) ep)] (bi "len" [.ref sc]) (fun t => Value.int (Int.ofNat m) (t + 1)) 2), (7, .cut)]
noncomputable def L0 (w : World) (b : Bool) (sc ep n t m : Nat) (vs : List Value) (r : Led) : RO :=
 run (V0 (wf w b)) 74 (dg 19 969303583068908449386135873608865889) (L0_q w b sc ep n t m vs r) (Code.call (.ref 185) ⟨[.ref sc], []⟩) none (.base) (denQ (Code.call (.ref 185) ⟨[.ref sc], []⟩)) ((sc, listO vs ep) :: (121, tabO []) :: (158, tabO []) :: (172, tabO []) :: r) (n + 186) (t) [] Acc.nil Acc.nil
section
variable {h₀ : HS} {w : World} {b : Bool} (O : (Bw w b h₀).Ok) {A₀ : Around} (hA : AOk A₀ 140) {R : Result → Shared → Prop} {dr : Drawn} {os : OsState} {h : Heap}
include O hA
theorem L0_t {sc ep n t m : Nat} {vs : List Value} {r : Led} (hm : vs.length = m) (hm2 : m < 1000) (S₀ : St (Bw w b h₀) h ((sc, listO vs ep) :: (121, tabO []) :: (158, tabO []) :: (172, tabO []) :: r) (n + 186))
  (next : ∀ κ, κ = (L0 w b sc ep n t m vs r).kont → depOk A₀ κ → κ.rlen = 1 → κ.len = 1 → ∀ h' t', St (Bw w b h₀) h' ((n + 192, rangeO m (t + 10) (t + 9) (t + 11)) :: (n + 191, listO [.int 2 (t + 1), .int 10 (t + 2), .int 5 (t + 3), .int 12 (t + 4), .int 3 (t + 5), .int 8 (t + 6)] 0) :: (n + 190, { cls := .type "cell", data := .cell none }) :: (n + 189, { cls := .type "cell", data := .cell none }) :: (n + 188, { cls := .type "cell", data := .cell none }) :: (n + 187, { cls := .type "cell", data := .cell none }) :: (n + 186, frameO 2 [en (wf w b) c_script t (.ref sc), en (wf w b) c_numers (t + 7) (.ref (n + 191))]) :: (sc, listO vs ep) :: (121, tabO []) :: (158, tabO []) :: (172, tabO []) :: r) ((n + 193)) → cA w b (arnd A₀ κ) (bi "range.__iter__" [.ref (n + 192)]) (endK (Bw w b h₀) A₀ R κ) (sh h' [] dr t' os)) :
  cA w b A₀ (Code.call (.ref 185) ⟨[.ref sc], []⟩) R (sh h [] dr t os) := by
 exact code_run (qs := (L0_q w b sc ep n t m vs r)) O hA  (aC (ora_len_list' _ _ _ _ hm hm2) <| aC trivial <| aN) (fine_cut (o := L0 w b sc ep n t m vs r) (is := [0, 1, 2, 3, 4, 5, 6, 7, 8, 9, 10]) (d := 11) (Vw.Is.eq (by refine Bool.rec ?_ ?_ b <;> and_intros <;> kernel_rfl)) rfl (next _ rfl)) S₀
noncomputable def L1_q (w : World) (b : Bool) (sc ep n t m : Nat) (vs : List Value) (r : Led) (t1 : Nat) : List (Nat × Act) := [(0, .cut)]
noncomputable def L1 (w : World) (b : Bool) (sc ep n t m : Nat) (vs : List Value) (r : Led) (t1 : Nat) : RO :=
 run (V0 (wf w b)) 7 [1] (L1_q w b sc ep n t m vs r t1) ((L0 w b sc ep n t m vs r).kont.code) none ((L0 w b sc ep n t m vs r).kont.rest) ((L0 w b sc ep n t m vs r).kont.fn (.ok (.ret (.ref (n + 193))))) ((n + 193, rangeItO 0 m) :: (n + 192, rangeO m (t + 10) (t + 9) (t + 11)) :: (n + 191, listO [.int 2 (t + 1), .int 10 (t + 2), .int 5 (t + 3), .int 12 (t + 4), .int 3 (t + 5), .int 8 (t + 6)] 0) :: (n + 190, cell0) :: (n + 189, cell0) :: (n + 188, cell0) :: (n + 187, cell0) :: (n + 186, frameO 2 [en (wf w b) c_script t (.ref sc), en (wf w b) c_numers (t + 7) (.ref (n + 191))]) :: (sc, listO vs ep) :: (121, tabO []) :: (158, tabO []) :: (172, tabO []) :: r) (n + 194) (t1) [] Acc.nil Acc.nil
theorem L1_t {sc ep n t m : Nat} {vs : List Value} {r : Led} {t1 : Nat} {κ : RK} (hκ : κ = (L0 w b sc ep n t m vs r).kont) {ml : Nat} (hl : κ.rlen = ml + 1) (hd : depOk A₀ κ)  (S₀ : St (Bw w b h₀) h ((n + 193, rangeItO 0 m) :: (n + 192, rangeO m (t + 10) (t + 9) (t + 11)) :: (n + 191, listO [.int 2 (t + 1), .int 10 (t + 2), .int 5 (t + 3), .int 12 (t + 4), .int 3 (t + 5), .int 8 (t + 6)] 0) :: (n + 190, cell0) :: (n + 189, cell0) :: (n + 188, cell0) :: (n + 187, cell0) :: (n + 186, frameO 2 [en (wf w b) c_script t (.ref sc), en (wf w b) c_numers (t + 7) (.ref (n + 191))]) :: (sc, listO vs ep) :: (121, tabO []) :: (158, tabO []) :: (172, tabO []) :: r) (n + 194))
  (next : ∀ κ, κ = (L1 w b sc ep n t m vs r t1).kont → depOk A₀ κ → κ.rlen = 1 → κ.len = 1 → ∀ h' t', St (Bw w b h₀) h' ((n + 193, rangeItO 0 m) :: (n + 192, rangeO m (t + 10) (t + 9) (t + 11)) :: (n + 191, listO [.int 2 (t + 1), .int 10 (t + 2), .int 5 (t + 3), .int 12 (t + 4), .int 3 (t + 5), .int 8 (t + 6)] 0) :: (n + 190, cell0) :: (n + 189, cell0) :: (n + 188, cell0) :: (n + 187, cell0) :: (n + 186, frameO 2 [en (wf w b) c_script t (.ref sc), en (wf w b) c_numers (t + 7) (.ref (n + 191))]) :: (sc, listO vs ep) :: (121, tabO []) :: (158, tabO []) :: (172, tabO []) :: r) ((n + 194)) → cA w b (arnd A₀ κ) (forOf (lawStmt (wf w b).params 1) (n + 193) (lawEnv (wf w b).params n)) (endK (Bw w b h₀) A₀ R κ) (sh h' [] dr t' os)) :
  endK (Bw w b h₀) A₀ R κ (.ok (.ret (.ref (n + 193)))) (sh h [] dr t1 os) := by
 exact rest_run (qs := (L1_q w b sc ep n t m vs r t1)) O hA hκ hl hd (aC trivial <| aN) (fine_cut (o := L1 w b sc ep n t m vs r t1) (is := [0, 1, 2, 3, 4, 5, 6, 7, 8, 9, 10, 11]) (d := 12) (Vw.Is.eq (by refine Bool.rec ?_ ?_ b <;> and_intros <;> kernel_rfl)) rfl (next _ rfl)) S₀
end
noncomputable def RO.ob (o : RO) (i : Nat) : Obj := match o.led[i]? with
 | some p => p.2
 | none => default
noncomputable def obFd (o : Obj) : FuncData := match o.data with
 | .func fd => fd
 | _ => default
noncomputable def obFs (o : Obj) : List Value := match o.data with
 | .fields ⟨vs⟩ => vs.drop 2
 | _ => []
noncomputable def frL0 (lay : Bool) (ep : Nat) (a : List DictEntry) (k : DictEntry) (b : List DictEntry) : Obj := match lay with
 | true => frameO (ep + 1) (a ++ k :: b)
 | false => frameO ep (a ++ b)
noncomputable def frL1 (lay : Bool) (ep : Nat) (a : List DictEntry) (k : DictEntry) (b c : List DictEntry) : Obj := match lay with
 | true => frameO ep (a ++ k :: (b ++ c))
 | false => frameO ep (a ++ (b ++ k :: c))
structure Z1 where
 (sc ep n t m t1 : Nat)
 vs : List Value
 r : Led
structure Z2 where
 (n t kk q ku ne : Nat)
 u : Nat → Nat
 N : Nat → Int
 r : Led
structure Z3 where
 (n t pc ep : Nat)
 (p tx ty : Nat → Nat)
 (x y : Nat → List Nat)
 r : Led
structure Z4 where
 (n t tq : Nat)
 Q : List Nat
 r : Led
noncomputable def upd : Led → List Obj → Led
 | p :: ps, o :: os => (p.1, o) :: upd ps os
 | ps, _ => ps
theorem pick_set {x : Addr × Obj} {i : Nat} : ∀ {is : List Nat} {l : Led}, i ∉ is → pick (l.set i x) is = pick l is
 | [], l, h => rfl
 | j :: is, l, h => by
  have hj : i ≠ j := fun e => h (e ▸ .head _)
  have ih := pick_set (x := x) (l := l) (is := is) (i := i) fun m => h (.tail _ m)
  have e : (l.set i x)[j]? = l[j]? := by rw [List.getElem?_set_ne hj]
  cases q : l[j]? with
  | some y => rw [pick_cons_some q, pick_cons_some (e.trans q), ih]
  | none => rw [pick_cons_none q, pick_cons_none (e.trans q), ih]
theorem map_set_fst {l : Led} {i : Nat} {p : Addr × Obj} (e : l[i]? = some p) (o : Obj) : (l.set i (p.1, o)).map (·.1) = l.map (·.1) := by
 rw [List.map_set]
 have : (l.map (·.1))[i]? = some p.1 := by rw [List.getElem?_map, e]; rfl
 exact set_same this
theorem setAll_fst : ∀ {idx : List Nat} {l : Led} {ups : List Obj}, (setAll l idx ups).map (·.1) = l.map (·.1)
 | [], l, ups => by cases ups <;> rfl
 | i :: is, l, [] => rfl
 | i :: is, l, o :: os => by
  unfold setAll
  cases q : l[i]? with
  | some p => simp only; rw [setAll_fst, map_set_fst q]
  | none => exact setAll_fst
theorem setAll_mem {p : Addr × Obj} : ∀ {idx : List Nat} {l : Led} {ups : List Obj} {need : Led}, (l.map (·.1)).Nodup → idx.Nodup → pick l idx = need → p ∈ setAll l idx ups → p ∈ upd need ups ∨ (p ∈ l ∧ p.1 ∉ (need.take ups.length).map (·.1))
 | [], l, ups, need, hl, hi, hp, hm => by
  subst hp
  have : setAll l [] ups = l := by cases ups <;> rfl
  rw [this] at hm
  exact .inr ⟨hm, by simp [pick]⟩
 | i :: is, l, [], need, hl, hi, hp, hm => .inr ⟨hm, by simp⟩
 | i :: is, l, o :: os, need, hl, hi, hp, hm => by
  obtain ⟨hi1, hi2⟩ := List.nodup_cons.mp hi
  unfold setAll at hm
  cases q : l[i]? with
  | none =>
   rw [q] at hm
   rw [pick_cons_none q] at hp
   exact setAll_mem hl hi2 hp hm
  | some x =>
   rw [q] at hm
   rw [pick_cons_some q] at hp
   subst hp
   have hl' : ((l.set i (x.1, o)).map (·.1)).Nodup := by rw [map_set_fst q]; exact hl
   rcases setAll_mem hl' hi2 (pick_set hi1) hm with h | ⟨h, h2⟩
   ·exact .inl (.tail _ h)
   ·have hx : (x.1, o) ∈ l.set i (x.1, o) := List.mem_set (List.getElem?_eq_some_iff.mp q).1 _
    by_cases e : p.1 = x.1
    ·have : p = (x.1, o) := key_unique hl' h hx e
     exact .inl (this ▸ .head _)
    ·rcases List.mem_or_eq_of_mem_set h with h | rfl
     ·refine .inr ⟨h, ?_⟩
      simp only [List.length_cons, List.take_succ_cons, List.map_cons, List.mem_cons, not_or]
      exact ⟨e, h2⟩
     ·exact absurd rfl e
theorem mem_upd {p : Addr × Obj} : ∀ {need : Led} {ups : List Obj}, p ∈ need → p.1 ∉ (need.take ups.length).map (·.1) → p ∈ upd need ups
 | q :: qs, [], h, _ => h
 | q :: qs, o :: os, h, h2 => by
  simp only [List.length_cons, List.take_succ_cons, List.map_cons, List.mem_cons, not_or] at h2
  rcases List.mem_cons.mp h with rfl | h
  ·exact absurd rfl h2.1
  ·exact .tail _ (mem_upd h h2.2)
theorem gap_of {B : Base} {A : Around} {K : Nat} {idx : List Nat} {need : Led} {ce : Code} {v : (Nat → Nat) → Result} {ups : (Nat → Nat) → List Obj} (hi : idx.Nodup) (hz : 186 ≤ B.h₀.objs.size)
  (c : ∀ (κ : RK) (h : Heap) (gl : List GenState) (dr : Drawn) (t : Nat) (os : OsState) (R : Result → Shared → Prop) (r : Led) (n : Nat), depOk A κ → κ.len ≤ K → St B h (need ++ r) (n + 186) →
   (∀ φ h', St B h' (upd need (ups φ) ++ r) (φ 0 + 186) → R (v φ) ⟨h', ⟨gl⟩, dr, φ 1, os⟩) → codeAny (model B.V.prog B.V.w) (arnd A κ) ce R (sh h gl dr t os)) :
  GapOk B A K idx need ce v ups := by
 intro κ h gl dr t os R l n hd hk hp S next
 have hnd := nodup_pick S.nodup hi
 rw [hp] at hnd
 have hsub : ∀ p ∈ need, p ∈ l := fun p m => pick_mem (hp ▸ m)
 have hr : ∀ p ∈ l, p ∈ need ∨ p ∈ l.filter (fun p => decide (p.1 ∉ need.map (·.1))) := by
  intro p m
  by_cases e : p.1 ∈ need.map (·.1)
  ·obtain ⟨q, hq, e⟩ := List.mem_map.mp e
   exact .inl (key_unique S.nodup (hsub q hq) m e ▸ hq)
  ·exact .inr (List.mem_filter.mpr ⟨m, by simpa using e⟩)
 have S2 : St B h (need ++ l.filter (fun p => decide (p.1 ∉ need.map (·.1)))) n := by
  refine S.part (fun p m => ?_) ?_
  ·rcases List.mem_append.mp m with m | m
   ·exact hsub p m
   ·exact (List.mem_filter.mp m).1
  ·rw [List.map_append, List.nodup_append]
   refine ⟨hnd, ?_, ?_⟩
   ·exact ((List.filter_sublist).map _).nodup S.nodup
   ·intro a ha b hb e
    subst e
    obtain ⟨q, hq, e⟩ := List.mem_map.mp hb
    have := (List.mem_filter.mp hq).2
    rw [e] at this
    simp only [decide_eq_true_eq] at this
    exact this ha
 have hn : n = (n - 186) + 186 := by
  have := S.low
  lia
 rw [hn] at S2
 refine c κ h gl dr t os R _ _ hd hk S2 fun φ h' S' => next φ h' ?_
 refine S'.part (fun p m => ?_) (by rw [setAll_fst]; exact S.nodup)
 rcases setAll_mem S.nodup hi hp m with m | ⟨m, h2⟩
 ·exact List.mem_append_left _ m
 ·rcases hr p m with m | m
  ·exact List.mem_append_left _ (mem_upd m h2)
  ·exact List.mem_append_right _ m
noncomputable def hd2 (w : World) (z1 : Z1) : List DictEntry := [en w c_script z1.t (.ref z1.sc), en w c_numers (z1.t + 7) (.ref (z1.n + 191))]
noncomputable def md3 (w : World) (z2 : Z2) (z3 : Z3) : List DictEntry := [en w c_names (z2.t + 6) (.ref (z2.n + 186)), en w c_pieces z3.t (.ref (z3.pc + 186)), en w [114, 111, 119] (z3.t + 48) (.ref (z3.n + 210))]
noncomputable def lawA (w : World) (lay : Bool) (z1 : Z1) (z2 : Z2) (z3 : Z3) (ep : Nat) (es : List DictEntry) : Obj := frL0 lay ep (hd2 w z1) (en w [107] z2.kk (.int (Int.ofNat z2.q) z2.ku)) (md3 w z2 z3 ++ es)
noncomputable def lawB (w : World) (lay : Bool) (z1 : Z1) (z2 : Z2) (z3 : Z3) (ep kt : Nat) (kv : Value) (es1 es2 : List DictEntry) : Obj := frL1 lay ep (hd2 w z1) (en w [107] kt kv) (md3 w z2 z3 ++ es1) es2
noncomputable def namesO (z2 : Z2) : Obj := listO [.str (S [34, 97]) z2.t, .str (S [92, 98]) (z2.t + 1), .str (S [35, 99]) (z2.t + 2), .str (S [10, 100]) (z2.t + 3), .str (S [9, 101]) (z2.t + 4), .str (S [32, 102]) (z2.t + 5)] 0
noncomputable def lstItO (l i : Nat) : Obj := { cls := .type "list_iterator", data := .fields ⟨[.ref (l + 186), .int (Int.ofNat i) 0]⟩ }
structure ZN where
 (n t it to kw wt kd dt klx kto kna ln tl p tp ep te : Nat)
 (wx wy : List Nat)
 nv : Value
 tt : Nat → Nat
 r : Led
noncomputable def esN (w : World) (X : LX) (y : ZN) : List DictEntry := [en w c_white y.kw (.str (S y.wx) y.wt), en w c_word y.kd (.str (S y.wy) y.dt), en w c_lexer y.klx (.ref (X.lx + 186)), en w c_told y.kto (.ref (y.to + 186))]
theorem gap_gt {w : World} {b : Bool} {h₀ : HS} {X : LX} (O : (Bw w b h₀).Ok) (hz : 186 ≤ h₀.h.objs.size) {A : Around} (hA : AOk A 200) {idx : List Nat} (hi : idx.Nodup) {qd : Bool} {n0 c : Nat} {rest ws : List Nat} {ln tl p tp ep p2 ln2 : Nat}
  (hl : 2 ≤ X.text.length) (hc : isLet (c + 1) = true) (hw : qd = false → ∀ c ∈ rest.head?, isWs c = true) (hws : ∀ c ∈ ws, isWs c = true) (hd : X.text.cps.toList.drop p = ws ++ (wordT qd (n0 + 1) (c + 1) ++ rest))
  (hp2 : p2 = p + ws.length + (readT qd (n0 + 1) (c + 1) rest).length) (hln2 : ln2 = ln + cnt10 ws + cnt10 (readT qd (n0 + 1) (c + 1) rest)) :
  GapOk (Bw w b h₀) A 3 idx (lexLed (wf w b) X ln tl p tp [] ep) (Code.call (.ref 49) ⟨[.ref (X.lx + 186)], []⟩) (fun φ => .ok (.ret (.str (S [n0 + 1, c + 1]) (φ 4)))) (fun φ => [instO 59 (X.dx + 186), lexD (wf w b) X ln2 (φ 2), listO [.int (Int.ofNat p2) (φ 3)] 0]) := by
 subst hp2 hln2
 refine gap_of hi hz fun κ h gl dr t os R r n hd' hk S next => ?_
 exact gt_word O (AOk.over (d := 170) (hA.le (by lia)) hd') hl hc hw hws hd S fun h' n' t' tl' tp' tt S' => next (fun i => match i with
  | 0 => n'
  | 1 => t'
  | 2 => tl'
  | 3 => tp'
  | _ => tt) h' S'
theorem gap_gtE {w : World} {b : Bool} {h₀ : HS} {X : LX} (O : (Bw w b h₀).Ok) (hz : 186 ≤ h₀.h.objs.size) {A : Around} (hA : AOk A 200) {idx : List Nat} (hi : idx.Nodup) {ln tl p tp ep : Nat} (hl : 2 ≤ X.text.length) (hd : p = X.text.length) :
  GapOk (Bw w b h₀) A 3 idx (lexLed (wf w b) X ln tl p tp [] ep) (Code.call (.ref 49) ⟨[.ref (X.lx + 186)], []⟩) (fun φ => .ok (.ret (.str (S []) (φ 4)))) (fun φ => [instO 59 (X.dx + 186), lexD (wf w b) X ln (φ 2), listO [.int (Int.ofNat p) (φ 3)] 0]) := by
 refine gap_of hi hz fun κ h gl dr t os R r n hd' hk S next => ?_
 exact gt_end O (AOk.over (d := 170) (hA.le (by lia)) hd') hl hd S fun h' n' t' tl' tp' tt S' => next (fun i => match i with
  | 0 => n'
  | 1 => t'
  | 2 => tl'
  | 3 => tp'
  | _ => tt) h' S'
noncomputable def L2_q (w : World) (b lay : Bool) (z1 : Z1) (z2 : Z2) : List (Nat × Act) := [(0, .cut)]
noncomputable def L2 (w : World) (b lay : Bool) (z1 : Z1) (z2 : Z2) : RO :=
 run (V0 (wf w b)) 31 [2, 2, 0, 2, 2, 0] (L2_q w b lay z1 z2) ((L1 w b z1.sc z1.ep z1.n z1.t z1.m z1.vs z1.r z1.t1).kont.code) none ((L1 w b z1.sc z1.ep z1.n z1.t z1.m z1.vs z1.r z1.t1).kont.rest) ((L1 w b z1.sc z1.ep z1.n z1.t z1.m z1.vs z1.r z1.t1).kont.fn (.ok .next)) ((z1.n + 186, frL0 lay 2 [en (wf w b) c_script z1.t (.ref z1.sc), en (wf w b) c_numers (z1.t + 7) (.ref (z1.n + 191))] (en (wf w b) [107] z2.kk (.int (Int.ofNat z2.q) z2.ku)) []) :: (z1.n + 191, listO [.int (z2.N 0) (z2.u 0), .int (z2.N 1) (z2.u 1), .int (z2.N 2) (z2.u 2), .int (z2.N 3) (z2.u 3), .int (z2.N 4) (z2.u 4), .int (z2.N 5) (z2.u 5)] z2.ne) :: z2.r) (z2.n + 186) (z2.t) [] Acc.nil Acc.nil
section
variable {h₀ : HS} {w : World} {b : Bool} (O : (Bw w b h₀).Ok) {A₀ : Around} (hA : AOk A₀ 140) {R : Result → Shared → Prop} {dr : Drawn} {os : OsState} {h : Heap}
include O hA
theorem L2_t {lay : Bool} {z1 : Z1} {z2 : Z2} {κ : RK} (hκ : κ = (L1 w b z1.sc z1.ep z1.n z1.t z1.m z1.vs z1.r z1.t1).kont) {ml : Nat} (hl : κ.rlen = ml + 1) (hd : depOk A₀ κ)  (S₀ : St (Bw w b h₀) h ((z1.n + 186, frL0 lay 2 [en (wf w b) c_script z1.t (.ref z1.sc), en (wf w b) c_numers (z1.t + 7) (.ref (z1.n + 191))] (en (wf w b) [107] z2.kk (.int (Int.ofNat z2.q) z2.ku)) []) :: (z1.n + 191, listO [.int (z2.N 0) (z2.u 0), .int (z2.N 1) (z2.u 1), .int (z2.N 2) (z2.u 2), .int (z2.N 3) (z2.u 3), .int (z2.N 4) (z2.u 4), .int (z2.N 5) (z2.u 5)] z2.ne) :: z2.r) (z2.n + 186))
  (next : ∀ κ, κ = (L2 w b lay z1 z2).kont → depOk A₀ κ → κ.rlen = 1 → κ.len = 1 → ∀ h' t', St (Bw w b h₀) h' ((z1.n + 186, frL0 lay 3 [en (wf w b) c_script z1.t (.ref z1.sc), en (wf w b) c_numers (z1.t + 7) (.ref (z1.n + 191))] (en (wf w b) [107] z2.kk (.int (Int.ofNat z2.q) z2.ku)) [en (wf w b) c_names (z2.t + 6) (.ref (z2.n + 186))]) :: (z2.n + 186, listO [.str (S [34, 97]) z2.t, .str (S [92, 98]) (z2.t + 1), .str (S [35, 99]) (z2.t + 2), .str (S [10, 100]) (z2.t + 3), .str (S [9, 101]) (z2.t + 4), .str (S [32, 102]) (z2.t + 5)] 0) :: (z1.n + 191, listO [.int (z2.N 0) (z2.u 0), .int (z2.N 1) (z2.u 1), .int (z2.N 2) (z2.u 2), .int (z2.N 3) (z2.u 3), .int (z2.N 4) (z2.u 4), .int (z2.N 5) (z2.u 5)] z2.ne) :: z2.r) ((z2.n + 187)) → cA w b (arnd A₀ κ) (Code.call (.ref 170) ⟨[.ref (z1.n + 191), .ref (z2.n + 186)], []⟩) (endK (Bw w b h₀) A₀ R κ) (sh h' [] dr t' os)) :
  endK (Bw w b h₀) A₀ R κ (.ok .next) (sh h [] dr z2.t os) := by
 exact rest_run (qs := (L2_q w b lay z1 z2)) O hA hκ hl hd (aC trivial <| aN) (fine_cut (o := L2 w b lay z1 z2) (is := [1, 0, 2]) (d := 3) (Vw.Is.eq (by refine Bool.rec (Bool.rec ?_ ?_ lay) (Bool.rec ?_ ?_ lay) b <;> and_intros <;> kernel_rfl)) rfl (next _ rfl)) S₀
end
section
variable {h₀ : HS} {w : World} {b : Bool} (O : (Bw w b h₀).Ok) {A₀ : Around} (hA : AOk A₀ 140) {R : Result → Shared → Prop} {dr : Drawn} {os : OsState} {h : Heap}
include O hA
theorem L3_t {lay : Bool} {z1 : Z1} {z2 : Z2} {z3 : Z3} {κ : RK} (hκ : κ = (L2 w b lay z1 z2).kont) {ml : Nat} (hl : κ.rlen = ml + 1) (hd : depOk A₀ κ) (hx : ∀ i, (z3.x i).length < 1000) (hy : ∀ i, (z3.y i).length < 1000) (S₀ : St (Bw w b h₀) h ((z1.n + 186, frL0 lay 3 [en (wf w b) c_script z1.t (.ref z1.sc), en (wf w b) c_numers (z1.t + 7) (.ref (z1.n + 191))] (en (wf w b) [107] z2.kk (.int (Int.ofNat z2.q) z2.ku)) [en (wf w b) c_names (z2.t + 6) (.ref (z2.n + 186))]) :: (z1.n + 187, cell0) :: (z3.pc + 186, listO [.ref ((z3.p 0) + 186), .ref ((z3.p 1) + 186), .ref ((z3.p 2) + 186), .ref ((z3.p 3) + 186), .ref ((z3.p 4) + 186), .ref ((z3.p 5) + 186)] z3.ep) :: ((z3.p 0) + 186, tupO [.str (S (z3.x 0)) (z3.tx 0), .str (S (z3.y 0)) (z3.ty 0)]) :: ((z3.p 1) + 186, tupO [.str (S (z3.x 1)) (z3.tx 1), .str (S (z3.y 1)) (z3.ty 1)]) :: ((z3.p 2) + 186, tupO [.str (S (z3.x 2)) (z3.tx 2), .str (S (z3.y 2)) (z3.ty 2)]) :: ((z3.p 3) + 186, tupO [.str (S (z3.x 3)) (z3.tx 3), .str (S (z3.y 3)) (z3.ty 3)]) :: ((z3.p 4) + 186, tupO [.str (S (z3.x 4)) (z3.tx 4), .str (S (z3.y 4)) (z3.ty 4)]) :: ((z3.p 5) + 186, tupO [.str (S (z3.x 5)) (z3.tx 5), .str (S (z3.y 5)) (z3.ty 5)]) :: z3.r) (z3.n + 186))
  (next : ∀ ps0 : Nat → SX, ∀ κ, κ = kt3 w b z1.n (z3.n + 210) → depOk A₀ κ → κ.rlen = 3 → κ.len = 3 → ∀ h' t', St (Bw w b h₀) h' ((z1.n + 186, frL0 lay 7 [en (wf w b) c_script z1.t (.ref z1.sc), en (wf w b) c_numers (z1.t + 7) (.ref (z1.n + 191))] (en (wf w b) [107] z2.kk (.int (Int.ofNat z2.q) z2.ku)) [en (wf w b) c_names (z2.t + 6) (.ref (z2.n + 186)), en (wf w b) c_pieces z3.t (.ref (z3.pc + 186)), en (wf w b) [114, 111, 119] (z3.t + 48) (.ref (z3.n + 210)), en (wf w b) c_white (z3.t + 49) (.str (S (z3.x 5)) (z3.tx 5)), en (wf w b) c_word (z3.t + 50) (.str (S (z3.y 5)) (z3.ty 5))]) :: (z1.n + 187, cellO (.ref (z3.n + 187))) :: (z3.n + 187, listO [.int (Int.ofNat ((z3.x 0).length + (z3.y 0).length)) (z3.t + 7), .int (Int.ofNat ((z3.x 1).length + (z3.y 1).length)) (z3.t + 14), .int (Int.ofNat ((z3.x 2).length + (z3.y 2).length)) (z3.t + 21), .int (Int.ofNat ((z3.x 3).length + (z3.y 3).length)) (z3.t + 28), .int (Int.ofNat ((z3.x 4).length + (z3.y 4).length)) (z3.t + 35), .int (Int.ofNat ((z3.x 5).length + (z3.y 5).length)) (z3.t + 42)] 6) :: (z3.n + 210, { cls := .ref 152, dict := some (z3.n + 209), data := .seq ⟨[.ref (z3.n + 219), .ref (z3.n + 224), .ref (z3.n + 229), .ref (z3.n + 234), .ref (z3.n + 239), .ref (z3.n + 244)]⟩ 6 }) :: (z3.n + 209, dictO 1 [en (wf w b) c_iniize (z3.t + 46) (.int 0 286)]) :: (z3.n + 219, tupO [.str (S (z3.x 0)) (z3.tx 0), .str (S (z3.y 0)) (z3.ty 0)]) :: (z3.n + 224, tupO [.str (S (z3.x 1)) (z3.tx 1), .str (S (z3.y 1)) (z3.ty 1)]) :: (z3.n + 229, tupO [.str (S (z3.x 2)) (z3.tx 2), .str (S (z3.y 2)) (z3.ty 2)]) :: (z3.n + 234, tupO [.str (S (z3.x 3)) (z3.tx 3), .str (S (z3.y 3)) (z3.ty 3)]) :: (z3.n + 239, tupO [.str (S (z3.x 4)) (z3.tx 4), .str (S (z3.y 4)) (z3.ty 4)]) :: (z3.n + 244, tupO [.str (S (z3.x 5)) (z3.tx 5), .str (S (z3.y 5)) (z3.ty 5)]) :: z3.r) ((z3.n + 247)) → cA w b (arnd A₀ κ) (Code.call (.ref 126) ⟨[.ref (z3.n + 210)], []⟩) (endK (Bw w b h₀) A₀ R κ) (sh h' [] dr t' os)) :
  endK (Bw w b h₀) A₀ R κ (.ok (.ret (.ref (z3.pc + 186)))) (sh h [] dr z3.t os) := by
 exact rest_run (f := 1822) (ls := (dg 968 725822066468714524961414927275992961912483158783940497554509233963527507753529254183458823508991811851156157096878680036084449377978319334515301427091848291481731657258775610520234756272845395456395707512706399303576794795111861107635674251737540624471446880099772064717837712239491140082644936131807468743960930281602967084812684456210781739119290032994619581058790110743634918588701846942036636478940319701164906522806296597212534761050837298007756004459924015985729025149595028971344749493682906856046695580575837429365803702974878303566232746502626681209719384627190577471197879230565376934775161518431167010239351650796880960658217925510086918612905017503162271978405871390487065821868202925466000026092361855928851064029994406472239490828699035574667667611159211651085466597404755494470442837139080996419915558521742058334846394897682707314543693239004021056754649236333260235769187307508058111689421838311834403064818114201054406180590530397494908824159736796886606920358541139868643123935242052440139679613246820901860572887203481823034247636581608011624149397717096175563830675700158060968724272909767589517946956014740857804017711327614537177527939217143437266401219269812220071141145185432135160608955547882647529416791862554594290673633080571724813274755541967070613251942004788928877504978397511972900700517669150663666503245427115145135088344344126075237980886897641092962302359963327179398957094873411764159102678865597791358081080932866151460880587111166673633073828090573214841766950348841823467265909369469987635685547130722666062840528440744931253479217677977471731186736347328223417888712712741436249839274669053746579939196369196754519235393665099345737418213467575627796814034054085347795927799063251713460589728347822529939170723342120191616352816511913653722504500147756378858868489016666871940602119325099495239398780876947056301535352572334767852744271880242545754575709061134338594981693634)) (qs := [(15, .ora [] [] (bi "len" [.str (S (z3.x 0)) (z3.tx 0)]) (fun t => Value.int (Int.ofNat (z3.x 0).length) (t + 1)) 2), (1, .ora [] [] (bi "len" [.str (S (z3.y 0)) (z3.ty 0)]) (fun t => Value.int (Int.ofNat (z3.y 0).length) (t + 1)) 2), (16, .ora [] [] (bi "len" [.str (S (z3.x 1)) (z3.tx 1)]) (fun t => Value.int (Int.ofNat (z3.x 1).length) (t + 1)) 2), (1, .ora [] [] (bi "len" [.str (S (z3.y 1)) (z3.ty 1)]) (fun t => Value.int (Int.ofNat (z3.y 1).length) (t + 1)) 2), (16, .ora [] [] (bi "len" [.str (S (z3.x 2)) (z3.tx 2)]) (fun t => Value.int (Int.ofNat (z3.x 2).length) (t + 1)) 2), (1, .ora [] [] (bi "len" [.str (S (z3.y 2)) (z3.ty 2)]) (fun t => Value.int (Int.ofNat (z3.y 2).length) (t + 1)) 2), (16, .ora [] [] (bi "len" [.str (S (z3.x 3)) (z3.tx 3)]) (fun t => Value.int (Int.ofNat (z3.x 3).length) (t + 1)) 2), (1, .ora [] [] (bi "len" [.str (S (z3.y 3)) (z3.ty 3)]) (fun t => Value.int (Int.ofNat (z3.y 3).length) (t + 1)) 2), (16, .ora [] [] (bi "len" [.str (S (z3.x 4)) (z3.tx 4)]) (fun t => Value.int (Int.ofNat (z3.x 4).length) (t + 1)) 2), (1, .ora [] [] (bi "len" [.str (S (z3.y 4)) (z3.ty 4)]) (fun t => Value.int (Int.ofNat (z3.y 4).length) (t + 1)) 2), (16, .ora [] [] (bi "len" [.str (S (z3.x 5)) (z3.tx 5)]) (fun t => Value.int (Int.ofNat (z3.x 5).length) (t + 1)) 2), (1, .ora [] [] (bi "len" [.str (S (z3.y 5)) (z3.ty 5)]) (fun t => Value.int (Int.ofNat (z3.y 5).length) (t + 1)) 2), (128, .cut)]) O hA hκ hl hd (aC (ora_len_str _ _ (hx 0)) <| aC (ora_len_str _ _ (hy 0)) <| aC (ora_len_str _ _ (hx 1)) <| aC (ora_len_str _ _ (hy 1)) <| aC (ora_len_str _ _ (hx 2)) <| aC (ora_len_str _ _ (hy 2)) <| aC (ora_len_str _ _ (hx 3)) <| aC (ora_len_str _ _ (hy 3)) <| aC (ora_len_str _ _ (hx 4)) <| aC (ora_len_str _ _ (hy 4)) <| aC (ora_len_str _ _ (hx 5)) <| aC (ora_len_str _ _ (hy 5)) <| aC trivial <| aN) (FineS.ats (m := 1) fun ps0 => (fine_cut (is := [61, 62, 59, 36, 37, 27, 22, 17, 12, 7, 2]) (d := 70) (Vw.Is.eq (by refine Bool.rec (Bool.rec ?_ ?_ lay) (Bool.rec ?_ ?_ lay) b <;> and_intros <;> kernel_rfl)) rfl (next ps0 _ (rk_eq (by refine Bool.rec (Bool.rec ?_ ?_ lay) (Bool.rec ?_ ?_ lay) b <;> kernel_rfl))))) S₀
end
noncomputable def L4_q (w : World) (b lay : Bool) (z1 : Z1) (z2 : Z2) (z3 : Z3) (ps : Nat → SX) (z4 : Z4) : List (Nat × Act) := [(23, .cut)]
noncomputable def L4 (w : World) (b lay : Bool) (z1 : Z1) (z2 : Z2) (z3 : Z3) (ps : Nat → SX) (z4 : Z4) : RO :=
 run (V0 (wf w b)) 334 (dg 166 2725751988542895260908488538743125961673884587898387380201144149455449994272397822907072114183331900538662038468148745700910712278662974438731599498579385761960405820595179785434661584687324896438605121896691560609346880094973179518389042265695414457893737491103763576528447733678298070622535227602689620512104166976081918207073) (L4_q w b lay z1 z2 z3 ps z4) ((kt3 w b z1.n (z3.n + 210)).code) none ((kt3 w b z1.n (z3.n + 210)).rest) ((kt3 w b z1.n (z3.n + 210)).fn (.ok (.ret (.str (S z4.Q) z4.tq)))) ((z1.n + 186, frL0 lay 7 [en (wf w b) c_script z1.t (.ref z1.sc), en (wf w b) c_numers (z1.t + 7) (.ref (z1.n + 191))] (en (wf w b) [107] z2.kk (.int (Int.ofNat z2.q) z2.ku)) [en (wf w b) c_names (z2.t + 6) (.ref (z2.n + 186)), en (wf w b) c_pieces z3.t (.ref (z3.pc + 186)), en (wf w b) [114, 111, 119] (z3.t + 48) (.ref (z3.n + 210)), en (wf w b) c_white (z3.t + 49) (.str (S (z3.x 5)) (z3.tx 5)), en (wf w b) c_word (z3.t + 50) (.str (S (z3.y 5)) (z3.ty 5))]) :: (z2.n + 186, listO [.str (S [34, 97]) z2.t, .str (S [92, 98]) (z2.t + 1), .str (S [35, 99]) (z2.t + 2), .str (S [10, 100]) (z2.t + 3), .str (S [9, 101]) (z2.t + 4), .str (S [32, 102]) (z2.t + 5)] 0) :: (158, tabO []) :: z4.r) (z4.n + 186) (z4.t) [.finished] Acc.nil Acc.nil
noncomputable def lx4 (w : World) (b lay : Bool) (z1 : Z1) (z2 : Z2) (z3 : Z3) (ps : Nat → SX) (z4 : Z4) : LX := { lx := z4.n + 21, dx := z4.n + 20, st := z4.n + 18, sd := z4.n + 19, rf := z4.n + 11, cd := z4.n + 10, tc := z4.n + 1, ac := z4.n + 2, al := z4.n + 3, pb := z4.n + 23, ct := z4.n + 4, k1 := z4.t + 23, k2 := z4.t + 25, k3 := z4.t + 28, k4 := z4.t + 30, kw := z4.t + 26, kr := z4.t + 18, km := 370, tk := z4.tq, tq := z4.t + 2, dt := obFd ((L4 w b lay z1 z2 z3 ps z4).ob 7), v0 := .str (S [114, 101, 97, 100]) (z4.t + 1), q := S c_lawead, rest := obFs ((L4 w b lay z1 z2 z3 ps z4).ob 15), text := S z4.Q }
section
variable {h₀ : HS} {w : World} {b : Bool} (O : (Bw w b h₀).Ok) {A₀ : Around} (hA : AOk A₀ 140) {R : Result → Shared → Prop} {dr : Drawn} {os : OsState} {h : Heap}
include O hA
theorem L4_t {lay : Bool} {z1 : Z1} {z2 : Z2} {z3 : Z3} {ps : Nat → SX} {z4 : Z4} {κ : RK} (hκ : κ = (kt3 w b z1.n (z3.n + 210))) {ml : Nat} (hl : κ.rlen = ml + 1) (hd : depOk A₀ κ)  (S₀ : St (Bw w b h₀) h ((z1.n + 186, frL0 lay 7 [en (wf w b) c_script z1.t (.ref z1.sc), en (wf w b) c_numers (z1.t + 7) (.ref (z1.n + 191))] (en (wf w b) [107] z2.kk (.int (Int.ofNat z2.q) z2.ku)) [en (wf w b) c_names (z2.t + 6) (.ref (z2.n + 186)), en (wf w b) c_pieces z3.t (.ref (z3.pc + 186)), en (wf w b) [114, 111, 119] (z3.t + 48) (.ref (z3.n + 210)), en (wf w b) c_white (z3.t + 49) (.str (S (z3.x 5)) (z3.tx 5)), en (wf w b) c_word (z3.t + 50) (.str (S (z3.y 5)) (z3.ty 5))]) :: (z2.n + 186, listO [.str (S [34, 97]) z2.t, .str (S [92, 98]) (z2.t + 1), .str (S [35, 99]) (z2.t + 2), .str (S [10, 100]) (z2.t + 3), .str (S [9, 101]) (z2.t + 4), .str (S [32, 102]) (z2.t + 5)] 0) :: (158, tabO []) :: z4.r) (z4.n + 186))
  (next : ∀ κ, κ = kt4 w b z1.n → depOk A₀ κ → κ.rlen = 1 → κ.len = 1 → ∀ h' t', St (Bw w b h₀) h' ((z1.n + 186, frL0 lay 9 [en (wf w b) c_script z1.t (.ref z1.sc), en (wf w b) c_numers (z1.t + 7) (.ref (z1.n + 191))] (en (wf w b) [107] z2.kk (.int (Int.ofNat z2.q) z2.ku)) [en (wf w b) c_names (z2.t + 6) (.ref (z2.n + 186)), en (wf w b) c_pieces z3.t (.ref (z3.pc + 186)), en (wf w b) [114, 111, 119] (z3.t + 48) (.ref (z3.n + 210)), en (wf w b) c_white (z3.t + 49) (.str (S (z3.x 5)) (z3.tx 5)), en (wf w b) c_word (z3.t + 50) (.str (S (z3.y 5)) (z3.ty 5)), en (wf w b) c_lexer (z4.t + 31) (.ref (z4.n + 207)), en (wf w b) c_told (z4.t + 32) (.ref (z4.n + 210))]) :: (z4.n + 211, lI (z2.n + 186) 0) :: (z2.n + 186, listO [.str (S [34, 97]) z2.t, .str (S [92, 98]) (z2.t + 1), .str (S [35, 99]) (z2.t + 2), .str (S [10, 100]) (z2.t + 3), .str (S [9, 101]) (z2.t + 4), .str (S [32, 102]) (z2.t + 5)] 0) :: (z4.n + 210, listO [] 0) :: (lexLed (wf w b) (lx4 w b lay z1 z2 z3 ps z4) 1 (z4.t + 21) 0 z4.t [] 0 ++ (158, tabO [.int 108 0, .int 4 0, .ref (z4.n + 196), .int 112 0, .int 13 0, .ref (z4.n + 203)]) :: z4.r)) ((z4.n + 212)) → cA w b (arnd A₀ κ) (forOf (lawStmt (wf w b).params 9) (z4.n + 25 + 186) (lawEnv (wf w b).params z1.n)) (endK (Bw w b h₀) A₀ R κ) (sh h' [.finished] dr t' os)) :
  endK (Bw w b h₀) A₀ R κ (.ok (.ret (.str (S z4.Q) z4.tq))) (sh h [.finished] dr z4.t os) := by
 exact rest_run (qs := (L4_q w b lay z1 z2 z3 ps z4)) O hA hκ hl hd (aC trivial <| aN) (fine_cut (o := L4 w b lay z1 z2 z3 ps z4) (is := [26, 0, 27, 1, 4, 5, 22, 2, 7, 6, 14, 15, 24, 23, 28]) (d := 29) (Vw.Is.eq (by refine Bool.rec (Bool.rec ?_ ?_ lay) (Bool.rec ?_ ?_ lay) b <;> and_intros <;> kernel_rfl)) rfl (next _ (rk_eq (by refine Bool.rec (Bool.rec ?_ ?_ lay) (Bool.rec ?_ ?_ lay) b <;> kernel_rfl)))) S₀
end
noncomputable def toL (k : Nat) (tt : Nat → Nat) : List Value := (List.range k).map fun i => .str (S [nA i + 1, nB i + 1]) (tt i)
theorem toL_succ (k : Nat) (tt : Nat → Nat) (a : Nat) : toL k tt ++ [.str (S [nA k + 1, nB k + 1]) a] = toL (k + 1) (fun j => if j < k then tt j else a) := by
 simp only [toL, List.range_succ, List.map_append, List.map_cons, List.map_nil, Nat.lt_irrefl, if_false]
 congr 1
 exact List.map_congr_left fun j hj => by rw [if_pos (List.mem_range.mp hj)]
noncomputable def nrF (w : World) (lay : Bool) (z1 : Z1) (z2 : Z2) (z3 : Z3) (X : LX) (y : ZN) (k : Nat) : Obj := match k with
 | 0 => lawA w lay z1 z2 z3 9 (esN w X y)
 | _ + 1 => lawA w lay z1 z2 z3 10 (esN w X y ++ [en w c_name y.kna y.nv])
section
variable {h₀ : HS} {w : World} {b : Bool} (O : (Bw w b h₀).Ok) {A₀ : Around} (hA : AOk A₀ 200) {R : Result → Shared → Prop} {dr : Drawn} {os : OsState} {h : Heap}
include O hA
theorem sN_t {lay : Bool} {k : Nat} {z1 : Z1} {z2 : Z2} {z3 : Z3} {X : LX} {y : ZN} {ln2 p2 : Nat} {gl : List GenState} {qd : Bool} {rest ws : List Nat} (hk : k < 6) (hz : 186 ≤ h₀.h.objs.size) (hl : 2 ≤ X.text.length) (hw : qd = false → ∀ c ∈ rest.head?, isWs c = true) (hws : ∀ c ∈ ws, isWs c = true) (hd : X.text.cps.toList.drop y.p = ws ++ (wordT qd (nA k + 1) (nB k + 1) ++ rest)) (hp2 : p2 = y.p + ws.length + (readT qd (nA k + 1) (nB k + 1) rest).length) (hln2 : ln2 = y.ln + cnt10 ws + cnt10 (readT qd (nA k + 1) (nB k + 1) rest)) (S₀ : St (Bw w b h₀) h ((z1.n + 186, nrF (wf w b) lay z1 z2 z3 X y k) :: (y.it + 186, lstItO z2.n k) :: (z2.n + 186, namesO z2) :: (y.to + 186, listO (toL k y.tt) y.te) :: (lexLed (wf w b) X y.ln y.tl y.p y.tp [] y.ep ++ y.r)) (y.n + 186))
  (next : ∀ ps0 : Nat → SX, ∀ h' t', St (Bw w b h₀) h' ((z1.n + 186, lawA (wf w b) lay z1 z2 z3 10 [en (wf w b) c_white y.kw (.str (S y.wx) y.wt), en (wf w b) c_word y.kd (.str (S y.wy) y.dt), en (wf w b) c_lexer y.klx (.ref (X.lx + 186)), en (wf w b) c_told y.kto (.ref (y.to + 186)), en (wf w b) c_name (ktk k y.t y.kna) (.str (S [nA k + 1, nB k + 1]) (z2.t + k))]) :: (y.it + 186, lstItO z2.n (k + 1)) :: (z2.n + 186, namesO z2) :: (y.to + 186, listO (toL k y.tt ++ [.str (S [nA k + 1, nB k + 1]) (SX.fresh (ps0 0) 4)]) (y.te + 1)) :: (lexLed (wf w b) X ln2 (SX.fresh (ps0 0) 2) p2 (SX.fresh (ps0 0) 3) [] (y.ep + 2) ++ y.r)) ((SX.fresh (ps0 0) 0 + 188)) → cA w b A₀ (forOf (lawStmt (wf w b).params 9) (y.it + 186) (lawEnv (wf w b).params z1.n)) R (sh h' gl dr t' os)) :
  cA w b A₀ (forOf (lawStmt (wf w b).params 9) (y.it + 186) (lawEnv (wf w b).params z1.n)) R (sh h gl dr y.t os) := by
 exact code_run (f := 246) (ls := (dg 143 2148625681320820839010371964780416276384343521585447473400410817226087131571326683020615877239333033839766525274279127029279017474346843395744350599748759486659544393819182489332479997375997030848312742937872009464856266343495805623075192748094159675582539412124094822699139353603363)) (qs := [(2, .gap 3 [4, 5, 6, 7, 8, 9, 10, 11, 12, 13] (lexLed (wf w b) X y.ln y.tl y.p y.tp [] y.ep) (.call (.ref 49) ⟨[.ref (X.lx + 186)], []⟩) (fun φ => .ok (.ret (.str (S [nA k + 1, nB k + 1]) (φ 4)))) (fun φ => [instO 59 (X.dx + 186), lexD (wf w b) X ln2 (φ 2), listO [.int (Int.ofNat p2) (φ 3)] 0]) (fun φ0 => [(16, .cut)]))]) O (hA.le (by lia))  (aC ⟨gap_gt (n0 := nA k) (c := nB k) O hz hA (by decide) hl isLet_nB hw hws hd hp2 hln2, fun φ => iK <| iN⟩ <| aN) (FineS.ats (m := 1) fun ps0 => (fine_loop (is := [2, 3, 4, 5, 6, 7, 8, 9, 10, 11, 12, 13, 14, 15]) (d := 16) (Vw.Is.eq (by clear next S₀ hd hp2 hln2; rcases six_k hk with rfl | rfl | rfl | rfl | rfl | rfl <;> refine Bool.rec (Bool.rec ?_ ?_ lay) (Bool.rec ?_ ?_ lay) b <;> and_intros <;> kernel_rfl)) rfl (next ps0))) S₀
end
noncomputable def lcNames (l : List (Str × NameKind)) : List (Str × NameKind) := l.map fun x => match x with
 | (n, k) => match k with
  | .free => (n, .cell)
  | _ => (n, k)
noncomputable def lcScope : Expr → Scope
 | .ListComp _ _ sc _ => { sc with names := lcNames sc.names }
 | _ => default
noncomputable def lcOf (P : Params) (e : Expr) (it acc loc : Addr) (f : Addr) (fr : Addr) (cells : List (Str × Addr)) (qual : List Nat) : Code :=
 .compLoop e 0 (.ref it) (.ref acc) { scope := lcScope e, locals := loc, globals := 3, cells := cells, qual := S qual, func := none, code := (fdAt P f).code, frame := some fr, builtins := 0 }
noncomputable def exBool : Expr → List Expr
 | .BoolOp _ vs _ => vs
 | e => [e]
noncomputable def exCmpR : Option Expr → Expr
 | some (.Compare _ _ (r :: _) _) => r
 | _ => default
noncomputable def exCmpL : Option Expr → Expr
 | some (.Compare l _ _ _) => l
 | _ => default
noncomputable def exR : Expr → Expr
 | .BinOp _ _ r _ => r
 | e => e
noncomputable def exArg (i : Nat) : Expr → Expr
 | .Call _ as _ _ => match as[i]? with
  | some a => a
  | none => default
 | e => e
noncomputable def exIf : Option Stmt → Expr
 | some (.If t _ _ _) => t
 | some (.While t _ _ _) => t
 | some (.Return (some e) _) => e
 | some (.Assign _ e _) => e
 | _ => default
noncomputable def lawQual : List Nat := [108, 97, 119, 46, 60, 108, 111, 99, 97, 108, 115, 62, 46]
noncomputable def c1E (P : Params) : Expr := exArg 0 (exR (exCmpR ((exBool (exIf (lawStmt P 10)))[1]?)))
noncomputable def c1 (P : Params) (it acc loc fr : Addr) : Code := lcOf P (c1E P) it acc loc 185 fr [] lawQual
section
variable {h₀ : HS} {w : World} {b : Bool} (O : (Bw w b h₀).Ok) {A₀ : Around} (hA : AOk A₀ 140) {R : Result → Shared → Prop} {dr : Drawn} {os : OsState} {h : Heap}
include O hA
theorem c1TA_t {it acc loc fr n t tk j c ep kk tp : Nat} {x cp : List Nat} {vs : List Value} {r : Led} {gl : List GenState} (hx : x[j]? = some 10) (hz : vs.length < 1000) (S₀ : St (Bw w b h₀) h ((it + 186, saiO x tk j) :: (acc + 186, listO vs ep) :: (loc + 186, dictO 0 []) :: r) (n + 186))
  (next : ∀ h' t', St (Bw w b h₀) h' ((it + 186, { cls := .type "str_ascii_iterator", dict := none, data := .fields ⟨[.str (S x) tk, .int (Int.ofNat (j + 1)) 0]⟩ }) :: (acc + 186, listO ((vs ++ [Value.str (S [10]) t])) (ep + 1)) :: (loc + 186, dictO 1 [en (wf w b) c_sign (t + 1) (.str (S [10]) t)]) :: r) ((n + 186)) → cA w b A₀ (c1 (wf w b).params (it + 186) (acc + 186) (loc + 186) (fr + 186)) R (sh h' gl dr t' os)) :
  cA w b A₀ (c1 (wf w b).params (it + 186) (acc + 186) (loc + 186) (fr + 186)) R (sh h gl dr t os) := by
 exact code_run (f := 30) (ls := [1, 1, 3, 3, 3, 3, 2]) (qs := [(1, .mov [0] [((it + 186), { cls := .type "str_ascii_iterator", dict := none, data := .fields ⟨[.str (S x) tk, .int (Int.ofNat j) 0]⟩ })] (bi "str_ascii_iterator.__next__" [.ref (it + 186)]) (fun n t => .ok (.ret (.str (S [10]) t))) 1 [saiO x tk (j + 1)] (fun n => [])), (1, .ora [] [] (bi "str.__eq__" [.str (S [10]) t, .str (S [10]) (t + 2)]) (fun t => Value.bool true) 0), (1, .mov [1] [((acc + 186), listO ((vs)) ep)] (bi "list.append" [.ref (acc + 186), .str (S [10]) t]) (fun n t => .ok (.ret (.none))) 0 [listO (vs ++ [Value.str (S [10]) t]) (ep + 1)] (fun n => [])), (0, .cut)]) O hA  (aC (mov_sai_next _ _ _ _ _ hx) <| aC (ora_str_eq _ _ _ _ _ rfl) <| aC (mov_append _ _ _ _ _ _ hz) <| aC trivial <| aN) (fine_loop (is := [0, 1, 2]) (d := 3) (Vw.Is.eq (by refine Bool.rec ?_ ?_ b <;> and_intros <;> kernel_rfl)) rfl (next)) S₀
theorem c1TB_t {it acc loc fr n t tk j c ep kk tp : Nat} {x cp : List Nat} {vs : List Value} {r : Led} {gl : List GenState} (hx : x[j]? = some 10) (hz : vs.length < 1000) (S₀ : St (Bw w b h₀) h ((it + 186, saiO x tk j) :: (acc + 186, listO vs ep) :: (loc + 186, dictO 1 [en (wf w b) c_sign kk (.str (S cp) tp)]) :: r) (n + 186))
  (next : ∀ h' t', St (Bw w b h₀) h' ((it + 186, { cls := .type "str_ascii_iterator", dict := none, data := .fields ⟨[.str (S x) tk, .int (Int.ofNat (j + 1)) 0]⟩ }) :: (acc + 186, listO ((vs ++ [Value.str (S [10]) t])) (ep + 1)) :: (loc + 186, dictO 1 [en (wf w b) c_sign kk (.str (S [10]) t)]) :: r) ((n + 186)) → cA w b A₀ (c1 (wf w b).params (it + 186) (acc + 186) (loc + 186) (fr + 186)) R (sh h' gl dr t' os)) :
  cA w b A₀ (c1 (wf w b).params (it + 186) (acc + 186) (loc + 186) (fr + 186)) R (sh h gl dr t os) := by
 exact code_run (f := 30) (ls := [1, 1, 3, 3, 3, 3, 2]) (qs := [(1, .mov [0] [((it + 186), { cls := .type "str_ascii_iterator", dict := none, data := .fields ⟨[.str (S x) tk, .int (Int.ofNat j) 0]⟩ })] (bi "str_ascii_iterator.__next__" [.ref (it + 186)]) (fun n t => .ok (.ret (.str (S [10]) t))) 1 [saiO x tk (j + 1)] (fun n => [])), (1, .ora [] [] (bi "str.__eq__" [.str (S [10]) t, .str (S [10]) (t + 2)]) (fun t => Value.bool true) 0), (1, .mov [1] [((acc + 186), listO ((vs)) ep)] (bi "list.append" [.ref (acc + 186), .str (S [10]) t]) (fun n t => .ok (.ret (.none))) 0 [listO (vs ++ [Value.str (S [10]) t]) (ep + 1)] (fun n => [])), (0, .cut)]) O hA  (aC (mov_sai_next _ _ _ _ _ hx) <| aC (ora_str_eq _ _ _ _ _ rfl) <| aC (mov_append _ _ _ _ _ _ hz) <| aC trivial <| aN) (fine_loop (is := [0, 1, 2]) (d := 3) (Vw.Is.eq (by refine Bool.rec ?_ ?_ b <;> and_intros <;> kernel_rfl)) rfl (next)) S₀
theorem c1FA_t {it acc loc fr n t tk j c ep kk tp : Nat} {x cp : List Nat} {vs : List Value} {r : Led} {gl : List GenState} (hx : x[j]? = some c) (hc : ([c] == [10]) = false) (S₀ : St (Bw w b h₀) h ((it + 186, saiO x tk j) :: (acc + 186, listO vs ep) :: (loc + 186, dictO 0 []) :: r) (n + 186))
  (next : ∀ h' t', St (Bw w b h₀) h' ((it + 186, { cls := .type "str_ascii_iterator", dict := none, data := .fields ⟨[.str (S x) tk, .int (Int.ofNat (j + 1)) 0]⟩ }) :: (acc + 186, listO vs ep) :: (loc + 186, dictO 1 [en (wf w b) c_sign (t + 1) (.str (S [c]) t)]) :: r) ((n + 186)) → cA w b A₀ (c1 (wf w b).params (it + 186) (acc + 186) (loc + 186) (fr + 186)) R (sh h' gl dr t' os)) :
  cA w b A₀ (c1 (wf w b).params (it + 186) (acc + 186) (loc + 186) (fr + 186)) R (sh h gl dr t os) := by
 exact code_run (f := 25) (ls := [1, 1, 3, 3, 3]) (qs := [(1, .mov [0] [((it + 186), { cls := .type "str_ascii_iterator", dict := none, data := .fields ⟨[.str (S x) tk, .int (Int.ofNat j) 0]⟩ })] (bi "str_ascii_iterator.__next__" [.ref (it + 186)]) (fun n t => .ok (.ret (.str (S [c]) t))) 1 [saiO x tk (j + 1)] (fun n => [])), (1, .ora [] [] (bi "str.__eq__" [.str (S [c]) t, .str (S [10]) (t + 2)]) (fun t => Value.bool false) 0), (0, .cut)]) O hA  (aC (mov_sai_next _ _ _ _ _ hx) <| aC (ora_str_eq _ _ _ _ _ hc) <| aC trivial <| aN) (fine_loop (is := [0, 1, 2]) (d := 3) (Vw.Is.eq (by refine Bool.rec ?_ ?_ b <;> and_intros <;> kernel_rfl)) rfl (next)) S₀
theorem c1FB_t {it acc loc fr n t tk j c ep kk tp : Nat} {x cp : List Nat} {vs : List Value} {r : Led} {gl : List GenState} (hx : x[j]? = some c) (hc : ([c] == [10]) = false) (S₀ : St (Bw w b h₀) h ((it + 186, saiO x tk j) :: (acc + 186, listO vs ep) :: (loc + 186, dictO 1 [en (wf w b) c_sign kk (.str (S cp) tp)]) :: r) (n + 186))
  (next : ∀ h' t', St (Bw w b h₀) h' ((it + 186, { cls := .type "str_ascii_iterator", dict := none, data := .fields ⟨[.str (S x) tk, .int (Int.ofNat (j + 1)) 0]⟩ }) :: (acc + 186, listO vs ep) :: (loc + 186, dictO 1 [en (wf w b) c_sign kk (.str (S [c]) t)]) :: r) ((n + 186)) → cA w b A₀ (c1 (wf w b).params (it + 186) (acc + 186) (loc + 186) (fr + 186)) R (sh h' gl dr t' os)) :
  cA w b A₀ (c1 (wf w b).params (it + 186) (acc + 186) (loc + 186) (fr + 186)) R (sh h gl dr t os) := by
 exact code_run (f := 25) (ls := [1, 1, 3, 3, 3]) (qs := [(1, .mov [0] [((it + 186), { cls := .type "str_ascii_iterator", dict := none, data := .fields ⟨[.str (S x) tk, .int (Int.ofNat j) 0]⟩ })] (bi "str_ascii_iterator.__next__" [.ref (it + 186)]) (fun n t => .ok (.ret (.str (S [c]) t))) 1 [saiO x tk (j + 1)] (fun n => [])), (1, .ora [] [] (bi "str.__eq__" [.str (S [c]) t, .str (S [10]) (t + 2)]) (fun t => Value.bool false) 0), (0, .cut)]) O hA  (aC (mov_sai_next _ _ _ _ _ hx) <| aC (ora_str_eq _ _ _ _ _ hc) <| aC trivial <| aN) (fine_loop (is := [0, 1, 2]) (d := 3) (Vw.Is.eq (by refine Bool.rec ?_ ?_ b <;> and_intros <;> kernel_rfl)) rfl (next)) S₀
theorem c1Z_t {it acc loc fr n t tk j c ep kk tp : Nat} {x cp : List Nat} {vs : List Value} {r : Led} {gl : List GenState} (hx : x[j]? = none) (S₀ : St (Bw w b h₀) h ((it + 186, saiO x tk j) :: r) (n + 186))
  (next : ∀ h' t', St (Bw w b h₀) h' ((it + 186, { cls := .type "str_ascii_iterator", dict := none, data := .fields ⟨[.none, .int (Int.ofNat j) 0]⟩ }) :: r) ((n + 188)) → R (.ok PySem.Flow.next) (sh h' gl dr t' os)) :
  cA w b A₀ (c1 (wf w b).params (it + 186) (acc + 186) (loc + 186) (fr + 186)) R (sh h gl dr t os) := by
 exact code_run (f := 12) (ls := [1, 1, 1]) (qs := [(1, .mov [0] [((it + 186), { cls := .type "str_ascii_iterator", dict := none, data := .fields ⟨[.str (S x) tk, .int (Int.ofNat j) 0]⟩ })] (bi "str_ascii_iterator.__next__" [.ref (it + 186)]) (fun n t => .error (.ref (n + 1))) 0 [saiE j] (fun n => [tupO [], stopO n]))]) O hA  (aC (mov_sai_end _ _ _ _ hx) <| aN) (fine_done (is := [2]) (d := 3) (Vw.Is.eq (by refine Bool.rec ?_ ?_ b <;> and_intros <;> kernel_rfl)) rfl (next)) S₀
end
theorem drop_cons_get {α : Type} {x rest : List α} {j : Nat} {c : α} (h : x.drop j = c :: rest) : x[j]? = some c ∧ x.drop (j + 1) = rest := by
 constructor
 ·have : (x.drop j)[0]? = some c := by rw [h]; rfl
  rw [List.getElem?_drop] at this
  simpa using this
 ·rw [← List.drop_drop, h]
  rfl
noncomputable def nlV (l : List Nat) : List Value := l.map fun t => .str (S [10]) t
noncomputable def frL (φ : Nat → Nat) (k : Nat) : List Nat := (List.range k).map fun i => φ (i + 9)
theorem frL_of (l : List Nat) (f : Nat → Nat) : frL (fun i => if i < 9 then f i else (l[i - 9]?).getD 0) l.length = l := by
 unfold frL
 apply List.ext_getElem?
 intro i
 simp
 by_cases h : i < l.length
 ·simp [h]
  lia
 ·simp [h]
section
variable {h₀ : HS} {w : World} {b : Bool} (O : (Bw w b h₀).Ok) {A₀ : Around} (hA : AOk A₀ 140) {R : Result → Shared → Prop} {dr : Drawn} {os : OsState} {it acc loc fr tk : Nat} {x : List Nat} {r : Led} {gl : List GenState}
include O hA
theorem c1_run : ∀ (rest : List Nat) (j n t ep kk tp cp : Nat) (vs : List Value) (h : Heap), x.drop j = rest → vs.length + rest.length < 1000 →
  St (Bw w b h₀) h ((it + 186, saiO x tk j) :: (acc + 186, listO vs ep) :: (loc + 186, dictO 1 [en (wf w b) c_sign kk (.str (S [cp]) tp)]) :: r) (n + 186) →
  (∀ h' n' t' l ep' kk' tp' c' j', l.length = cnt10 rest → St (Bw w b h₀) h' ((it + 186, saiE j') :: (acc + 186, listO (vs ++ nlV l) ep') :: (loc + 186, dictO 1 [en (wf w b) c_sign kk' (.str (S [c']) tp')]) :: r) (n' + 186) → R (.ok .next) (sh h' gl dr t' os)) →
  cA w b A₀ (c1 (wf w b).params (it + 186) (acc + 186) (loc + 186) (fr + 186)) R (sh h gl dr t os)
 | [], j, n, t, ep, kk, tp, cp, vs, h, hd, hz, S, next => by
  have hj : x.length ≤ j := by simpa using hd
  have hx : x[j]? = none := by simpa using hj
  refine c1Z_t (n := n) (c := 0) (ep := ep) (kk := kk) (tp := tp) (acc := acc) (loc := loc) (cp := []) (vs := []) O hA hx S fun h' t' S' => ?_
  have e : vs ++ nlV [] = vs := by simp [nlV]
  exact next h' (n + 2) t' [] ep kk tp cp j rfl (by rw [e]; exact S')
 | c :: rest, j, n, t, ep, kk, tp, cp, vs, h, hd, hz, S, next => by
  obtain ⟨hx, hd'⟩ := drop_cons_get hd
  by_cases h10 : c = 10
  ·subst h10
   refine c1TB_t (c := 0) (tp := tp) (cp := [cp]) O hA hx (by simp at hz; lia) S fun h' t' S' => ?_
   refine c1_run rest _ _ _ _ _ _ _ _ _ hd' (by simp at hz ⊢; lia) S' fun h' n' t' l ep' kk' tp' c' j' hl S2 => next h' n' t' (t :: l) ep' kk' tp' c' j' (by rw [cnt10_cons, if_pos rfl]; simp [hl]; lia) ?_
   simpa [nlV] using S2
  ·refine c1FB_t (tp := tp) (cp := [cp]) O hA hx (by simpa using h10) S fun h' t' S' => ?_
   exact c1_run rest _ _ _ _ _ _ _ _ _ hd' (by simp at hz ⊢; lia) S' fun h' n' t' l ep' kk' tp' c' j' hl S2 => next h' n' t' l ep' kk' tp' c' j' (by rw [cnt10_cons, if_neg h10]; lia) S2
theorem c1_loop {n t ep : Nat} {h : Heap} (hz : x.length < 1000) (hne : x ≠ [])
  (S₀ : St (Bw w b h₀) h ((it + 186, saiO x tk 0) :: (acc + 186, listO [] ep) :: (loc + 186, dictO 0 []) :: r) (n + 186))
  (next : ∀ h' n' t' l ep' kk' tp' c' j', l.length = cnt10 x → St (Bw w b h₀) h' ((it + 186, saiE j') :: (acc + 186, listO (nlV l) ep') :: (loc + 186, dictO 1 [en (wf w b) c_sign kk' (.str (S [c']) tp')]) :: r) (n' + 186) → R (.ok .next) (sh h' gl dr t' os)) :
  cA w b A₀ (c1 (wf w b).params (it + 186) (acc + 186) (loc + 186) (fr + 186)) R (sh h gl dr t os) := by
 cases x with
 | nil => exact absurd rfl hne
 | cons c rest =>
  have hx : (c :: rest)[0]? = some c := rfl
  by_cases h10 : c = 10
  ·subst h10
   refine c1TA_t (c := 0) (kk := 0) (tp := 0) (cp := []) O hA hx (by simp) S₀ fun h' t' S' => ?_
   refine c1_run O hA rest 1 _ _ _ _ _ _ _ _ rfl (by simp at hz ⊢; lia) S' fun h' n' t' l ep' kk' tp' c' j' hl S2 => next h' n' t' (t :: l) ep' kk' tp' c' j' (by rw [cnt10_cons, if_pos rfl]; simp [hl]; lia) ?_
   simpa [nlV] using S2
  ·refine c1FA_t (kk := 0) (tp := 0) (cp := []) O hA hx (by simpa using h10) S₀ fun h' t' S' => ?_
   refine c1_run O hA rest 1 _ _ _ _ _ _ _ _ rfl (by simp at hz ⊢; lia) S' fun h' n' t' l ep' kk' tp' c' j' hl S2 => next h' n' t' l ep' kk' tp' c' j' (by rw [cnt10_cons, if_neg h10]; lia) ?_
   simpa [nlV] using S2
theorem gap_c1 {K : Nat} {idx : List Nat} {ep : Nat} (hA' : AOk A₀ (140 + 5 * K)) (hsz : 186 ≤ h₀.h.objs.size) (hi : idx.Nodup) (hz : x.length < 1000) (hne : x ≠ []) {k : Nat} (hk : cnt10 x = k) :
  GapOk (Bw w b h₀) A₀ K idx [(it + 186, saiO x tk 0), (acc + 186, listO [] ep), (loc + 186, dictO 0 [])] (c1 (wf w b).params (it + 186) (acc + 186) (loc + 186) (fr + 186)) (fun φ => .ok .next)
   (fun φ => [saiE (φ 2), listO (nlV (frL φ k)) (φ 3), dictO 1 [en (wf w b) c_sign (φ 4) (.str (S [φ 5]) (φ 6))]]) := by
 subst hk
 refine gap_of hi hsz fun κ h gl dr t os R r n hd' hk S next => ?_
 refine c1_loop O (AOk.over (d := 140) (hA'.le (by lia)) hd') hz hne S fun h' n' t' l ep' kk' tp' c' j' hl S' => ?_
 have e := frL_of l (fun i => match i with
  | 0 => n'
  | 1 => t'
  | 2 => j'
  | 3 => ep'
  | 4 => kk'
  | 5 => c'
  | _ => tp')
 have := next (fun i => if i < 9 then (match i with
  | 0 => n'
  | 1 => t'
  | 2 => j'
  | 3 => ep'
  | 4 => kk'
  | 5 => c'
  | _ => tp') else (l[i - 9]?).getD 0) h'
 rw [← hl, e] at this
 exact this S'
end
noncomputable def rowQ (d : Addr) (vs : List Value) (ep : Nat) : Obj := { cls := .ref 152, dict := some d, data := .seq ⟨vs⟩ ep }
structure Z5 where
 (n t kna te ln tl nt : Nat)
 tt : Nat → Nat
 r : Led
structure Z6 where
 (n t tq : Nat)
 r : Led
noncomputable def L5_q (w : World) (b lay : Bool) (z1 : Z1) (z2 : Z2) (z3 : Z3) (ps : Nat → SX) (z4 : Z4) (z5 : Z5) : List (Nat × Act) := [(1, .ora [2, 3] [((z4.n + 210), listO [.str (S [34, 97]) (z5.tt 0), .str (S [92, 98]) (z5.tt 1), .str (S [35, 99]) (z5.tt 2), .str (S [10, 100]) (z5.tt 3), .str (S [9, 101]) (z5.tt 4), .str (S [32, 102]) (z5.tt 5)] z5.te), ((z2.n + 186), listO [.str (S [34, 97]) z2.t, .str (S [92, 98]) (z2.t + 1), .str (S [35, 99]) (z2.t + 2), .str (S [10, 100]) (z2.t + 3), .str (S [9, 101]) (z2.t + 4), .str (S [32, 102]) (z2.t + 5)] 0)] (bi "list.__ne__" [.ref (z4.n + 210), .ref (z2.n + 186)]) (fun t => Value.bool false) 0), (5, .cut)]
noncomputable def L5 (w : World) (b lay : Bool) (z1 : Z1) (z2 : Z2) (z3 : Z3) (ps : Nat → SX) (z4 : Z4) (z5 : Z5) : RO :=
 run (V0 (wf w b)) 58 (dg 29 32221233565121454900468340441080046721377448223236690114) (L5_q w b lay z1 z2 z3 ps z4 z5) ((kt4 w b z1.n).code) none ((kt4 w b z1.n).rest) ((kt4 w b z1.n).fn (.ok .next)) ((z1.n + 186, frL0 lay 10 [en (wf w b) c_script z1.t (.ref z1.sc), en (wf w b) c_numers (z1.t + 7) (.ref (z1.n + 191))] (en (wf w b) [107] z2.kk (.int (Int.ofNat z2.q) z2.ku)) [en (wf w b) c_names (z2.t + 6) (.ref (z2.n + 186)), en (wf w b) c_pieces z3.t (.ref (z3.pc + 186)), en (wf w b) [114, 111, 119] (z3.t + 48) (.ref (z3.n + 210)), en (wf w b) c_white (z3.t + 49) (.str (S (z3.x 5)) (z3.tx 5)), en (wf w b) c_word (z3.t + 50) (.str (S (z3.y 5)) (z3.ty 5)), en (wf w b) c_lexer (z4.t + 31) (.ref (z4.n + 207)), en (wf w b) c_told (z4.t + 32) (.ref (z4.n + 210)), en (wf w b) c_name z5.kna (.str (S [32, 102]) z5.nt)]) :: (z3.n + 210, rowQ (z3.n + 209) [.ref (z3.n + 219), .ref (z3.n + 224), .ref (z3.n + 229), .ref (z3.n + 234), .ref (z3.n + 239), .ref (z3.n + 244)] 6) :: (z4.n + 210, listO [.str (S [34, 97]) (z5.tt 0), .str (S [92, 98]) (z5.tt 1), .str (S [35, 99]) (z5.tt 2), .str (S [10, 100]) (z5.tt 3), .str (S [9, 101]) (z5.tt 4), .str (S [32, 102]) (z5.tt 5)] z5.te) :: (z2.n + 186, namesO z2) :: (z4.n + 207, instO 59 (z4.n + 206)) :: (z4.n + 206, lexD (wf w b) (lx4 w b lay z1 z2 z3 ps z4) z5.ln z5.tl) :: z5.r) (z5.n + 186) (z5.t) [.finished] Acc.nil Acc.nil
section
variable {h₀ : HS} {w : World} {b : Bool} (O : (Bw w b h₀).Ok) {A₀ : Around} (hA : AOk A₀ 140) {R : Result → Shared → Prop} {dr : Drawn} {os : OsState} {h : Heap}
include O hA
theorem L5_t {lay : Bool} {z1 : Z1} {z2 : Z2} {z3 : Z3} {ps : Nat → SX} {z4 : Z4} {z5 : Z5} {κ : RK} (hκ : κ = (kt4 w b z1.n)) {ml : Nat} (hl : κ.rlen = ml + 1) (hd : depOk A₀ κ)  (S₀ : St (Bw w b h₀) h ((z1.n + 186, frL0 lay 10 [en (wf w b) c_script z1.t (.ref z1.sc), en (wf w b) c_numers (z1.t + 7) (.ref (z1.n + 191))] (en (wf w b) [107] z2.kk (.int (Int.ofNat z2.q) z2.ku)) [en (wf w b) c_names (z2.t + 6) (.ref (z2.n + 186)), en (wf w b) c_pieces z3.t (.ref (z3.pc + 186)), en (wf w b) [114, 111, 119] (z3.t + 48) (.ref (z3.n + 210)), en (wf w b) c_white (z3.t + 49) (.str (S (z3.x 5)) (z3.tx 5)), en (wf w b) c_word (z3.t + 50) (.str (S (z3.y 5)) (z3.ty 5)), en (wf w b) c_lexer (z4.t + 31) (.ref (z4.n + 207)), en (wf w b) c_told (z4.t + 32) (.ref (z4.n + 210)), en (wf w b) c_name z5.kna (.str (S [32, 102]) z5.nt)]) :: (z3.n + 210, rowQ (z3.n + 209) [.ref (z3.n + 219), .ref (z3.n + 224), .ref (z3.n + 229), .ref (z3.n + 234), .ref (z3.n + 239), .ref (z3.n + 244)] 6) :: (z4.n + 210, listO [.str (S [34, 97]) (z5.tt 0), .str (S [92, 98]) (z5.tt 1), .str (S [35, 99]) (z5.tt 2), .str (S [10, 100]) (z5.tt 3), .str (S [9, 101]) (z5.tt 4), .str (S [32, 102]) (z5.tt 5)] z5.te) :: (z2.n + 186, namesO z2) :: (z4.n + 207, instO 59 (z4.n + 206)) :: (z4.n + 206, lexD (wf w b) (lx4 w b lay z1 z2 z3 ps z4) z5.ln z5.tl) :: z5.r) (z5.n + 186))
  (next : ∀ κ, κ = (L5 w b lay z1 z2 z3 ps z4 z5).kont → depOk A₀ κ → κ.rlen = 3 → κ.len = 3 → ∀ h' t', St (Bw w b h₀) h' ((z1.n + 186, frL0 lay 10 [en (wf w b) c_script z1.t (.ref z1.sc), en (wf w b) c_numers (z1.t + 7) (.ref (z1.n + 191))] (en (wf w b) [107] z2.kk (.int (Int.ofNat z2.q) z2.ku)) [en (wf w b) c_names (z2.t + 6) (.ref (z2.n + 186)), en (wf w b) c_pieces z3.t (.ref (z3.pc + 186)), en (wf w b) [114, 111, 119] (z3.t + 48) (.ref (z3.n + 210)), en (wf w b) c_white (z3.t + 49) (.str (S (z3.x 5)) (z3.tx 5)), en (wf w b) c_word (z3.t + 50) (.str (S (z3.y 5)) (z3.ty 5)), en (wf w b) c_lexer (z4.t + 31) (.ref (z4.n + 207)), en (wf w b) c_told (z4.t + 32) (.ref (z4.n + 210)), en (wf w b) c_name z5.kna (.str (S [32, 102]) z5.nt)]) :: (z3.n + 210, rowQ (z3.n + 209) [.ref (z3.n + 219), .ref (z3.n + 224), .ref (z3.n + 229), .ref (z3.n + 234), .ref (z3.n + 239), .ref (z3.n + 244)] 6) :: (z2.n + 186, namesO z2) :: z5.r) ((z5.n + 186)) → cA w b (arnd A₀ κ) (Code.call (.ref 126) ⟨[.ref (z3.n + 210)], []⟩) (endK (Bw w b h₀) A₀ R κ) (sh h' [.finished] dr t' os)) :
  endK (Bw w b h₀) A₀ R κ (.ok .next) (sh h [.finished] dr z5.t os) := by
 exact rest_run (qs := (L5_q w b lay z1 z2 z3 ps z4 z5)) O hA hκ hl hd (aC (ora_list_ne _ _ [(S [34, 97], z5.tt 0), (S [92, 98], z5.tt 1), (S [35, 99], z5.tt 2), (S [10, 100], z5.tt 3), (S [9, 101], z5.tt 4), (S [32, 102], z5.tt 5)] [(S [34, 97], z2.t + 0), (S [92, 98], z2.t + 1), (S [35, 99], z2.t + 2), (S [10, 100], z2.t + 3), (S [9, 101], z2.t + 4), (S [32, 102], z2.t + 5)] _ _ rfl) <| aC trivial <| aN) (fine_cut (o := L5 w b lay z1 z2 z3 ps z4 z5) (is := [0, 1, 3]) (d := 6) (Vw.Is.eq (by refine Bool.rec (Bool.rec ?_ ?_ lay) (Bool.rec ?_ ?_ lay) b <;> and_intros <;> kernel_rfl)) rfl (next _ rfl)) S₀
end
section
variable {h₀ : HS} {w : World} {b : Bool} (O : (Bw w b h₀).Ok) {A₀ : Around} (hA : AOk A₀ 200) {R : Result → Shared → Prop} {dr : Drawn} {os : OsState} {h : Heap}
include O hA
theorem L6_t {lay : Bool} {z1 : Z1} {z2 : Z2} {z3 : Z3} {ps : Nat → SX} {z4 : Z4} {z5 : Z5} {z6 : Z6} {k : Nat} {κ : RK} (hκ : κ = (L5 w b lay z1 z2 z3 ps z4 z5).kont) {ml : Nat} (hl : κ.rlen = ml + 1) (hd : depOk A₀ κ) (hsz : 186 ≤ h₀.h.objs.size) (hasc : z4.Q.all (fun c => decide (c < 128)) = true) (hQ : z4.Q.length < 1000) (hne : z4.Q ≠ []) (hk : cnt10 z4.Q = k) (hk2 : k < 1000) (hln : (Int.ofNat z5.ln != Int.ofNat (1 + k)) = false) (S₀ : St (Bw w b h₀) h ((z1.n + 186, frL0 lay 10 [en (wf w b) c_script z1.t (.ref z1.sc), en (wf w b) c_numers (z1.t + 7) (.ref (z1.n + 191))] (en (wf w b) [107] z2.kk (.int (Int.ofNat z2.q) z2.ku)) [en (wf w b) c_names (z2.t + 6) (.ref (z2.n + 186)), en (wf w b) c_pieces z3.t (.ref (z3.pc + 186)), en (wf w b) [114, 111, 119] (z3.t + 48) (.ref (z3.n + 210)), en (wf w b) c_white (z3.t + 49) (.str (S (z3.x 5)) (z3.tx 5)), en (wf w b) c_word (z3.t + 50) (.str (S (z3.y 5)) (z3.ty 5)), en (wf w b) c_lexer (z4.t + 31) (.ref (z4.n + 207)), en (wf w b) c_told (z4.t + 32) (.ref (z4.n + 210)), en (wf w b) c_name z5.kna (.str (S [32, 102]) z5.nt)]) :: (z1.n + 188, cell0) :: (z1.n + 189, cell0) :: (z1.n + 187, cellO (.ref (z3.n + 187))) :: z6.r) (z6.n + 186))
  (next : ∀ ps0 : Nat → SX, ∀ κ, κ = kt6 w b z1.n → depOk A₀ κ → κ.rlen = 1 → κ.len = 1 → ∀ h' t', St (Bw w b h₀) h' ((z1.n + 186, frL0 lay 11 [en (wf w b) c_script z1.t (.ref z1.sc), en (wf w b) c_numers (z1.t + 7) (.ref (z1.n + 191))] (en (wf w b) [107] z2.kk (.int (Int.ofNat z2.q) z2.ku)) [en (wf w b) c_names (z2.t + 6) (.ref (z2.n + 186)), en (wf w b) c_pieces z3.t (.ref (z3.pc + 186)), en (wf w b) [114, 111, 119] (z3.t + 48) (.ref (z3.n + 210)), en (wf w b) c_white (z3.t + 49) (.str (S (z3.x 5)) (z3.tx 5)), en (wf w b) c_word (z3.t + 50) (.str (S (z3.y 5)) (z3.ty 5)), en (wf w b) c_lexer (z4.t + 31) (.ref (z4.n + 207)), en (wf w b) c_told (z4.t + 32) (.ref (z4.n + 210)), en (wf w b) c_name z5.kna (.str (S [32, 102]) z5.nt), en (wf w b) c_kept ((SX.fresh (ps0 0)) 1 + 3) (.ref ((SX.fresh (ps0 0)) 0 + 186))]) :: ((SX.fresh (ps0 0)) 0 + 189, rI 0 5) :: ((SX.fresh (ps0 0)) 0 + 187, listO [.int 0 ((SX.fresh (ps0 0)) 1 + 4), .int 0 ((SX.fresh (ps0 0)) 1 + 5), .int 0 ((SX.fresh (ps0 0)) 1 + 6), .int 0 ((SX.fresh (ps0 0)) 1 + 7), .int 0 ((SX.fresh (ps0 0)) 1 + 8), .int 0 ((SX.fresh (ps0 0)) 1 + 9)] 0) :: ((SX.fresh (ps0 0)) 0 + 186, listO [] 0) :: (z1.n + 187, cellO (.ref (z3.n + 187))) :: (z1.n + 188, cellO (.ref (z3.n + 187))) :: (z1.n + 189, cellO (.ref ((SX.fresh (ps0 0)) 0 + 187))) :: z6.r) (((SX.fresh (ps0 0)) 0 + 190)) → cA w b (arnd A₀ κ) (forOf (lawStmt (wf w b).params 14) ((SX.fresh (ps0 0)) 0 + 3 + 186) (lawEnv (wf w b).params z1.n)) (endK (Bw w b h₀) A₀ R κ) (sh h' [.finished, .finished] dr t' os)) :
  endK (Bw w b h₀) A₀ R κ (.ok (.ret (.str (S z4.Q) z6.tq))) (sh h [.finished, .finished] dr z6.t os) := by
 exact rest_run (f := 109) (ls := (dg 25 758729930227406979548508330432839821680472443266)) (qs := [(3, .mov [] [] (bi "str.__iter__" [.str (S z4.Q) z6.tq]) (fun n t => .ok (.ret (.ref n))) 0 [] (fun n => [saiO z4.Q z6.tq 0])), (1, .gap 3 [2, 1, 0] ([(z6.n + 186, saiO z4.Q z6.tq 0), (z6.n + 1 + 186, listO [] 0), (z6.n + 2 + 186, dictO 0 [])]) (c1 (wf w b).params (z6.n + 186) (z6.n + 1 + 186) (z6.n + 2 + 186) (z1.n + 186)) (fun φ => .ok .next) (fun φ => [saiE (φ 2), listO (nlV (frL φ k)) (φ 3), dictO 1 [en (wf w b) c_sign (φ 4) (.str (S [φ 5]) (φ 6))]]) (fun φ0 => [(1, .ora [1] [((z6.n + 187), listO ((nlV (frL φ0 k))) (φ0 3))] (bi "len" [.ref (z6.n + 187)]) (fun t => Value.int (Int.ofNat k) (t + 1)) 2), (3, .ora [] [] (bi "int.__ne__" [.int (Int.ofNat z5.ln) z5.tl, .int (Int.ofNat (1 + k)) (φ0 1 + 2)]) (fun t => Value.bool false) 0), (8, .cut)]))]) O (hA.le (by lia)) hκ hl hd (aC (mov_str_iter _ _ hasc) <| aC ⟨gap_c1 (it := z6.n) (acc := z6.n + 1) (loc := z6.n + 2) O (hA.le (by lia)) (hA.le (by lia)) hsz (by decide) hQ hne hk, fun φ => iO (ora_len_list' _ _ _ _ (by simp [nlV, frL]) hk2) <| iO (ora_ne _ _ _ _ _ hln) <| iK <| iN⟩ <| aN) (FineS.ats (m := 1) fun ps0 => (fine_cut (is := [7, 0, 2, 3, 10, 8, 9]) (d := 11) (Vw.Is.eq (by refine Bool.rec (Bool.rec ?_ ?_ lay) (Bool.rec ?_ ?_ lay) b <;> and_intros <;> kernel_rfl)) rfl (next ps0 _ (rk_eq (by refine Bool.rec (Bool.rec ?_ ?_ lay) (Bool.rec ?_ ?_ lay) b <;> kernel_rfl))))) S₀
end
section
variable {V : RV}
theorem mov_range_iter (r : Addr) (m a b c : Nat) {idx : List Nat} (hm : m < 1000) : MovOk V idx [(r, rangeO m a b c)] (bi "range.__iter__" [.ref r]) (fun n _ => .ok (.ret (.ref n))) 0 [] fun _ => [rangeItO 0 m] := by
 intro B hB A h gl dr t os R l n hpk hA dep un S next
 subst hB
 refine range_iter hm S (pick_mem (by rw [hpk]; exact .head _)) fun h' S' => ?_
 exact next h' (by rw [setAll_nil]; exact S')
theorem mov_slice_eq (l sl : Addr) (o : Obj) (vs : List Value) (ep : Nat) (vl vu : Value) (lo hi : Option Nat) (rs : List Value) {idx : List Nat} (hd : o.data = .seq ⟨vs⟩ ep) (pl : PartN vl lo) (pu : PartN vu hi) (hz : vs.length < 1000) (h : sliceN lo hi vs = rs) :
  MovOk V idx [(l, o), (sl, sliceO vl vu)] (lgi [.ref l, .ref sl]) (fun n _ => .ok (.ret (.ref n))) 0 [] fun _ => [listO rs 0] := by
 subst h
 exact mov_slice l sl o vs ep vl vu lo hi hd pl pu hz
theorem sliceBounds_from (i n : Nat) : ∃ a : Nat, sliceBounds (some (Int.ofNat i)) none none n = ((a : Int), (n : Int), 1) ∧ a = min i n :=
 ⟨clipAt n (i : Int), sliceBounds_plain .., clipAt_nat ..⟩
theorem mov_setnil (l sl e : Addr) (c : Value) (d : Option Addr) (vs ys : List Value) (ep ep2 i ti : Nat) {idx : List Nat} (hc : c ≠ .type "list") (hz : vs.length < 1000) (hy : vs.take i = ys) (he : epOf vs.length ys.length ep = ep2) :
  MovOk V idx [(l, { cls := c, dict := d, data := .seq ⟨vs⟩ ep }), (sl, sliceO (.int (Int.ofNat i) ti) .none), (e, listO [] 0)] (bi "list.__setitem__" [.ref l, .ref sl, .ref e]) (fun _ _ => .ok (.ret .none)) 0 [{ cls := c, dict := d, data := .seq ⟨ys⟩ ep2 }] fun _ => [] := by
 subst hy he
 refine mov_tree (by decide +kernel) F.entry_list_setitem fun B hB A h gl dr t' os R lg n hpk hA S next => ?_
 have ho := S.led _ (pick_mem (by rw [hpk]; exact .head _))
 have hs := S.led _ (pick_mem (by rw [hpk]; exact .tail _ (.head _)))
 have hE := S.led _ (pick_mem (by rw [hpk]; exact .tail _ (.tail _ (.head _))))
 have hb := big1000
 have hTs : Shared.TypeIs (sh h gl dr t' os) (.ref sl) "slice" := ⟨_, hs, rfl⟩
 have hTe : Shared.TypeIs (sh h gl dr t' os) (.ref e) "list" := ⟨_, hE, rfl⟩
 show wpAny _ _ (Builtin.List.listSubscript? (.ref sl) >>= _) _ _ _
 refine wpAny_bind ?_
 unfold Builtin.List.listSubscript?
 refine wpAny_bind (wpAny_specialOf hTs slice_no_index ?_)
 simp only [Option.isNone_none, if_true]
 refine wpAny_pure ?_
 show wpAny _ _ (typeOf (.ref sl) >>= _) _ _ _
 refine wpAny_bind (wpAny_typeOf hTs ?_)
 rw [if_neg (by decide)]
 rw [listSliceParts_eq]
 refine wpAny_bind (wpAny_bind (wpAny_field hs rfl (x := .none) rfl (wpAny_bind (wpAny_listPart .none ?_))))
 rw [if_neg (show ¬ ((rawPart none == rawInt 0) = true) from Bool.false_ne_true)]
 refine wpAny_bind (wpAny_field hs rfl (x := .int (Int.ofNat i) ti) rfl (wpAny_bind (wpAny_listPart (.int _ _) ?_)))
 refine wpAny_bind (wpAny_field hs rfl (x := .none) rfl (wpAny_bind (wpAny_listPart .none (wpAny_pure ?_))))
 have hne : l ≠ e := by
  intro hh
  subst hh
  have := ho.symm.trans hE
  injection this with this
  injection this with this
  exact hc this
 have hsr : Builtin.List.listSameRef (.ref l) (.ref e) = false := by
  show (l == e) = false
  simpa using hne
 rw [hsr, if_neg Bool.false_ne_true]
 refine wpAny_bind (m := Builtin.List.listAllItems (.ref e) _) ?_
 unfold Builtin.List.listAllItems
 refine wpAny_bind (wpAny_typeOf hTe ?_)
 rw [if_pos (by decide)]
 unfold Builtin.List.listItems
 refine wpAny_bind (wpAny_seqItems hE rfl (wpAny_pure ?_))
 refine wpAny_bind (m := Builtin.List.listItems (.ref l)) ?_
 unfold Builtin.List.listItems
 refine wpAny_bind (wpAny_seqItems ho rfl (wpAny_pure ?_))
 refine wpAny_bind (wpAny_of_eq (sliceIndices_raw (some (Int.ofNat i)) none none _ (by simp)) ?_)
 obtain ⟨a, ha, ha2⟩ := sliceBounds_from i vs.length
 have ha' : sliceBounds (some (Int.ofNat i)) none none (⟨vs⟩ : Array Value).size = ((a : Int), (vs.length : Int), 1) := ha
 rw [ha']
 rw [if_pos (show ((1 : Int) == 1) = true from rfl)]
 refine wpAny_bind (wpAny_rule ?_)
 have ht : Builtin.List.listTooLong ((⟨vs⟩ : Array Value).size + (⟨[]⟩ : Array Value).size) = false := by
  unfold Builtin.List.listTooLong
  simp
  lia
 rw [ht, if_neg Bool.false_ne_true]
 have hf : (fun xs : Array Value => xs.extract 0 (a : Int).toNat ++ (⟨[]⟩ : Array Value) ++ xs.extract (max (a : Int) (vs.length : Int)).toNat xs.size) ⟨vs⟩ = ⟨vs.take i⟩ := by
  have h1 : (max (a : Int) (vs.length : Int)).toNat = vs.length := by lia
  simp only [h1, Int.toNat_natCast]
  simp [ha2]
 refine wpAny_bind (m := updateSeq l (fun xs => xs.extract 0 (a : Int).toNat ++ (⟨[]⟩ : Array Value) ++ xs.extract (max (a : Int) (vs.length : Int)).toNat xs.size)) (wpAny_updateSeq ho rfl ?_ (by show vs.length ≤ sizeLine; lia) ?_)
 ·refine wpAny_bind (wpAny_letGo (wpAny_pure ?_))
  refine next _ (upd_next S hpk ?_ rfl)
  exact mapSeq_eq c d vs ep _ _ hf
 ·have := congrArg Array.size hf
  rw [this]
  simp
  lia
theorem ora_add (a b c : Int) (t u : Tok) (h : a + b = c) {prog : Program} {w : World} : OraOk prog w [] (bi "int.__add__" [.int a t, .int b u]) (fun t => .int c t) 1 := by
 subst h; exact ora_int (by decide +kernel) F.entry_int_add (AutoIntG4.int___add___int_int_0 a t b u)
theorem ora_neg (a c : Int) (t : Tok) (h : -a = c) {prog : Program} {w : World} : OraOk prog w [] (bi "int.__neg__" [.int a t]) (fun t => .int c t) 1 := by
 subst h; exact ora_int (by decide +kernel) F.entry_int_neg (AutoIntG9.int___neg___int_0 a t)
theorem ora_sadd (x y : List Nat) (t u : Tok) {prog : Program} {w : World} (hx : x ≠ []) (hy : y ≠ []) (hz : x.length + y.length < 1000) : OraOk prog w [] (bi "str.__add__" [.str (Mine.S x) t, .str (Mine.S y) u]) (fun t => .str (Mine.S (x ++ y)) t) 1 := by
 have hb := big1000
 have e := S_app x y
 have hl : (Mine.S x ++ Mine.S y).length = x.length + y.length := by rw [e, S_len]; simp
 have hx0 : (Mine.S x).length ≠ 0 := by rw [S_len]; simpa using hx
 have := ora_str_add (prog := prog) (w := w) (Mine.S x) (Mine.S y) t u (by rw [hl]; lia) (by rw [S_len]; simpa using hy)
 have h0 : ((Mine.S x).length == 0) = false := by simpa using hx0
 rw [h0, e] at this
 exact this
end
noncomputable def intV (l : List (Nat × Nat)) : List Value := l.map fun p => .int (Int.ofNat p.1) p.2
noncomputable def refV (l : List Nat) : List Value := l.map fun a => .ref (a + 186)
noncomputable def rowO (d : Addr) (vs : List Value) (ep : Nat) : Obj := { cls := .ref 152, dict := some d, data := .seq ⟨vs⟩ ep }
noncomputable def whOf (s : Option Stmt) (env : Env) : Code := match s with
 | some (.While t b o _) => .whileLoop t b o env
 | _ => default
noncomputable def tnStmt (P : Params) (i : Nat) : Option Stmt := (bodyOfFor (lawStmt P 14))[i]?
noncomputable def ck (lay : Bool) (x y : Nat) : Nat := match lay with
 | true => x
 | false => y
noncomputable def c2E (P : Params) : Expr := exR (exArg 0 (exR (exCmpR (some (exIf (tnStmt P 6))))))
noncomputable def c2 (P : Params) (it acc loc fr cw cb : Addr) : Code := lcOf P (c2E P) it acc loc 185 fr [(S [119, 101, 105, 103, 104, 116, 115], cw), (S [98, 111, 116, 104], cb)] lawQual
structure ZT where
 (n t it ke ml kt k1 k2 k3 k4 k5 k6 k7 k8 k9 k10 k11 k12 we ep kep wep de ra rd rep d0 c1 c2 : Nat)
 (a0 a1 tx0 ty0 tx1 ty1 : Nat)
 (v1 v2 v3 v4 v5 v7 v8 v9 v10 v11 v12 kv bv : Value)
 (kl wl dl : List (Nat × Nat))
 (pre post : List Nat)
 (x0 y0 x1 y1 : List Nat)
 (tb2 rs : List Value)
 (v0 : Value)
 (q : Str)
 ctq : Nat
 r : Led
structure ZU where
 (n t : Nat)
 (v1 v2 : Value)
 r : Led
noncomputable def es1 (w : World) (y : ZT) : List DictEntry := [en w c_white y.k1 y.v1, en w c_word y.k2 y.v2, en w c_lexer y.k3 y.v3, en w c_told y.k4 y.v4, en w c_name y.k5 y.v5]
noncomputable def es2 (w : World) (y : ZT) : List DictEntry := [en w [108, 111, 119] y.k8 y.v8, en w c_place y.k9 y.v9, en w [111, 102, 102] y.k10 y.v10, en w c_moved y.k11 y.v11, en w c_reader y.k12 y.v12]
theorem len_intV (l : List (Nat × Nat)) : (intV l).length = l.length := by simp [intV]
theorem len_refV (l : List Nat) : (refV l).length = l.length := by simp [refV]
theorem len_sliceN (lo hi : Option Nat) (vs : List Value) : (sliceN lo hi vs).length ≤ vs.length := by
 unfold sliceN takeN
 cases lo <;> cases hi <;> simp <;> lia
theorem off_eq {pre : List Nat} {K : Nat} {l : List Value} (h : pre.length = K) : sliceN (some K) none (refV pre ++ l) = l := by
 subst h
 have : (refV pre).length = pre.length := len_refV pre
 unfold sliceN takeN
 simp [← this]
theorem tak_eq {pre : List Nat} {K : Nat} {l : List Value} (h : pre.length = K) : (refV pre ++ l).take K = refV pre := by
 subst h
 have : (refV pre).length = pre.length := len_refV pre
 simp [← this]
theorem mvd_eq (pre : List Nat) (p : Nat) : sliceN (some p) none (refV pre) = refV (pre.drop p) := by simp [sliceN, takeN, refV, List.map_drop]
theorem mvt_eq (pre : List Nat) (p : Nat) : (refV pre).take p = refV (pre.take p) := by simp [refV, List.map_take]
section
variable {h₀ : HS} {w : World} {b : Bool} (O : (Bw w b h₀).Ok) {A₀ : Around} (hA : AOk A₀ 140) {R : Result → Shared → Prop} {dr : Drawn} {os : OsState} {h : Heap}
include O hA
theorem wkT_t {lay : Bool} {z1 : Z1} {z2 : Z2} {z3 : Z3} {y : ZT} {ep kt q6 q7 k tk m wa ta wb tb n t : Nat} {v6 v7 : Value} {e2 : List DictEntry} {r : Led} {gl : List GenState} (hm : (intV y.wl).length = m) (hm2 : m < 100) (hk : k < 100) (h1 : decide ((Int.ofNat (k + 2)) < Int.ofNat m) = true) (ha : (intV y.wl)[k]? = some (.int (Int.ofNat wa) ta)) (hb : (intV y.wl)[k + 2]? = some (.int (Int.ofNat wb) tb)) (h2 : decide (Int.ofNat wa > Int.ofNat wb) = true) (S₀ : St (Bw w b h₀) h ((z1.n + 186, lawB (wf w b) lay z1 z2 z3 ep kt (.int (Int.ofNat k) tk) (es1 (wf w b) y ++ [en (wf w b) c_kept q6 v6, en (wf w b) c_turn q7 v7]) e2) :: (z1.n + 188, cellO (.ref (y.we + 186))) :: (y.we + 186, listO (intV y.wl) y.wep) :: r) (n + 186))
  (next : ∀ h' t', St (Bw w b h₀) h' ((z1.n + 186, lawB (wf w b) lay z1 z2 z3 ep kt (.int (Int.ofNat (k + 1)) (t + 7)) (es1 (wf w b) y ++ [en (wf w b) c_kept q6 v6, en (wf w b) c_turn q7 v7]) e2) :: (z1.n + 188, cellO (.ref (y.we + 186))) :: (y.we + 186, listO (intV y.wl) y.wep) :: r) ((n + 186)) → cA w b A₀ (whOf (tnStmt (wf w b).params 1) (lawEnv (wf w b).params z1.n)) R (sh h' gl dr t' os)) :
  cA w b A₀ (whOf (tnStmt (wf w b).params 1) (lawEnv (wf w b).params z1.n)) R (sh h gl dr t os) := by
 exact code_run (f := 75) (ls := (dg 19 969304678653968334327965826799936610)) (qs := [(3, .ora [2] [((y.we + 186), listO ((intV y.wl)) y.wep)] (bi "len" [.ref (y.we + 186)]) (fun t => Value.int (Int.ofNat m) (t + 1)) 2), (1, .ora [] [] (bi "int.__lt__" [.int (Int.ofNat (k + 2)) (t + 1), .int (Int.ofNat m) (t + 3)]) (fun t => Value.bool true) 0), (1, .ora [2] [((y.we + 186), listO ((intV y.wl)) y.wep)] (lgi [.ref (y.we + 186), .int (Int.ofNat k) tk]) (fun t => Value.int (Int.ofNat wa) ta) 0), (3, .ora [2] [((y.we + 186), listO ((intV y.wl)) y.wep)] (lgi [.ref (y.we + 186), .int (Int.ofNat (k + 2)) (t + 5)]) (fun t => Value.int (Int.ofNat wb) tb) 0), (1, .ora [] [] (bi "int.__gt__" [.int (Int.ofNat wa) ta, .int (Int.ofNat wb) tb]) (fun t => Value.bool true) 0), (2, .cut)]) O hA  (aC (ora_len_list' _ _ _ _ hm (by lia)) <| aC (ora_lt _ _ _ _ _ h1) <| aC (ora_list_item _ _ _ _ _ _ ha (by lia)) <| aC (ora_list_item _ _ _ _ _ _ hb (by lia)) <| aC (ora_gt _ _ _ _ _ h2) <| aC trivial <| aN) (fine_loop (is := [0, 1, 2]) (d := 3) (Vw.Is.eq (by refine Bool.rec (Bool.rec ?_ ?_ lay) (Bool.rec ?_ ?_ lay) b <;> and_intros <;> kernel_rfl)) rfl (next)) S₀
theorem wkF_t {lay : Bool} {z1 : Z1} {z2 : Z2} {z3 : Z3} {y : ZT} {ep kt q6 q7 k tk m wa ta wb tb n t : Nat} {v6 v7 : Value} {e2 : List DictEntry} {r : Led} {gl : List GenState} (hm : (intV y.wl).length = m) (hm2 : m < 100) (hk : k < 100) (h1 : decide ((Int.ofNat (k + 2)) < Int.ofNat m) = false) (S₀ : St (Bw w b h₀) h ((z1.n + 186, lawB (wf w b) lay z1 z2 z3 ep kt (.int (Int.ofNat k) tk) (es1 (wf w b) y ++ [en (wf w b) c_kept q6 v6, en (wf w b) c_turn q7 v7]) e2) :: (z1.n + 188, cellO (.ref (y.we + 186))) :: (y.we + 186, listO (intV y.wl) y.wep) :: r) (n + 186))
  (next : ∀ h' t', St (Bw w b h₀) h' ((z1.n + 186, lawB (wf w b) lay z1 z2 z3 ep kt (.int (Int.ofNat k) tk) (es1 (wf w b) y ++ [en (wf w b) c_kept q6 v6, en (wf w b) c_turn q7 v7]) e2) :: (z1.n + 188, cellO (.ref (y.we + 186))) :: (y.we + 186, listO (intV y.wl) y.wep) :: r) ((n + 186)) → R (.ok PySem.Flow.next) (sh h' gl dr t' os)) :
  cA w b A₀ (whOf (tnStmt (wf w b).params 1) (lawEnv (wf w b).params z1.n)) R (sh h gl dr t os) := by
 exact code_run (f := 27) (ls := [1, 0, 0, 2]) (qs := [(3, .ora [2] [((y.we + 186), listO ((intV y.wl)) y.wep)] (bi "len" [.ref (y.we + 186)]) (fun t => Value.int (Int.ofNat m) (t + 1)) 2), (1, .ora [] [] (bi "int.__lt__" [.int (Int.ofNat (k + 2)) (t + 1), .int (Int.ofNat m) (t + 3)]) (fun t => Value.bool false) 0)]) O hA  (aC (ora_len_list' _ _ _ _ hm (by lia)) <| aC (ora_lt _ _ _ _ _ h1) <| aN) (fine_done (is := [0, 1, 2]) (d := 3) (Vw.Is.eq (by refine Bool.rec (Bool.rec ?_ ?_ lay) (Bool.rec ?_ ?_ lay) b <;> and_intros <;> kernel_rfl)) rfl (next)) S₀
theorem wkG_t {lay : Bool} {z1 : Z1} {z2 : Z2} {z3 : Z3} {y : ZT} {ep kt q6 q7 k tk m wa ta wb tb n t : Nat} {v6 v7 : Value} {e2 : List DictEntry} {r : Led} {gl : List GenState} (hm : (intV y.wl).length = m) (hm2 : m < 100) (hk : k < 100) (h1 : decide ((Int.ofNat (k + 2)) < Int.ofNat m) = true) (ha : (intV y.wl)[k]? = some (.int (Int.ofNat wa) ta)) (hb : (intV y.wl)[k + 2]? = some (.int (Int.ofNat wb) tb)) (h2 : decide (Int.ofNat wa > Int.ofNat wb) = false) (S₀ : St (Bw w b h₀) h ((z1.n + 186, lawB (wf w b) lay z1 z2 z3 ep kt (.int (Int.ofNat k) tk) (es1 (wf w b) y ++ [en (wf w b) c_kept q6 v6, en (wf w b) c_turn q7 v7]) e2) :: (z1.n + 188, cellO (.ref (y.we + 186))) :: (y.we + 186, listO (intV y.wl) y.wep) :: r) (n + 186))
  (next : ∀ h' t', St (Bw w b h₀) h' ((z1.n + 186, lawB (wf w b) lay z1 z2 z3 ep kt (.int (Int.ofNat k) tk) (es1 (wf w b) y ++ [en (wf w b) c_kept q6 v6, en (wf w b) c_turn q7 v7]) e2) :: (z1.n + 188, cellO (.ref (y.we + 186))) :: (y.we + 186, listO (intV y.wl) y.wep) :: r) ((n + 186)) → R (.ok PySem.Flow.next) (sh h' gl dr t' os)) :
  cA w b A₀ (whOf (tnStmt (wf w b).params 1) (lawEnv (wf w b).params z1.n)) R (sh h gl dr t os) := by
 exact code_run (f := 59) (ls := (dg 16 2191170196290720424380773999714)) (qs := [(3, .ora [2] [((y.we + 186), listO ((intV y.wl)) y.wep)] (bi "len" [.ref (y.we + 186)]) (fun t => Value.int (Int.ofNat m) (t + 1)) 2), (1, .ora [] [] (bi "int.__lt__" [.int (Int.ofNat (k + 2)) (t + 1), .int (Int.ofNat m) (t + 3)]) (fun t => Value.bool true) 0), (1, .ora [2] [((y.we + 186), listO ((intV y.wl)) y.wep)] (lgi [.ref (y.we + 186), .int (Int.ofNat k) tk]) (fun t => Value.int (Int.ofNat wa) ta) 0), (3, .ora [2] [((y.we + 186), listO ((intV y.wl)) y.wep)] (lgi [.ref (y.we + 186), .int (Int.ofNat (k + 2)) (t + 5)]) (fun t => Value.int (Int.ofNat wb) tb) 0), (1, .ora [] [] (bi "int.__gt__" [.int (Int.ofNat wa) ta, .int (Int.ofNat wb) tb]) (fun t => Value.bool false) 0)]) O hA  (aC (ora_len_list' _ _ _ _ hm (by lia)) <| aC (ora_lt _ _ _ _ _ h1) <| aC (ora_list_item _ _ _ _ _ _ ha (by lia)) <| aC (ora_list_item _ _ _ _ _ _ hb (by lia)) <| aC (ora_gt _ _ _ _ _ h2) <| aN) (fine_done (is := [0, 1, 2]) (d := 3) (Vw.Is.eq (by refine Bool.rec (Bool.rec ?_ ?_ lay) (Bool.rec ?_ ?_ lay) b <;> and_intros <;> kernel_rfl)) rfl (next)) S₀
end
theorem intV_get {l : List (Nat × Nat)} {k : Nat} {p : Nat × Nat} (h : l[k]? = some p) : (intV l)[k]? = some (.int (Int.ofNat p.1) p.2) := by simp [intV, h]
noncomputable def gwK (ws : List Nat) : Nat → Nat → Nat
 | 0, k => k
 | f + 1, k => match ws[k]?, ws[k + 2]? with
  | some a, some c => if a > c then gwK ws f (k + 1) else k
  | _, _ => k
section
variable {h₀ : HS} {w : World} {b lay : Bool} {z1 : Z1} {z2 : Z2} {z3 : Z3} {y : ZT} (O : (Bw w b h₀).Ok) {A₀ : Around} (hA : AOk A₀ 140) {R : Result → Shared → Prop} {dr : Drawn} {os : OsState} {ep kt q6 q7 : Nat} {v6 v7 : Value} {e2 : List DictEntry} {gl : List GenState} {r : Led}
include O hA
theorem wk_run (hm2 : y.wl.length < 100) : ∀ (f k tk n t : Nat) (h : Heap), y.wl.length ≤ f + k → k < 100 →
  St (Bw w b h₀) h ((z1.n + 186, lawB (wf w b) lay z1 z2 z3 ep kt (.int (Int.ofNat k) tk) (es1 (wf w b) y ++ [en (wf w b) c_kept q6 v6, en (wf w b) c_turn q7 v7]) e2) :: (z1.n + 188, cellO (.ref (y.we + 186))) :: (y.we + 186, listO (intV y.wl) y.wep) :: r) (n + 186) →
  (∀ h' n' t' tk', St (Bw w b h₀) h' ((z1.n + 186, lawB (wf w b) lay z1 z2 z3 ep kt (.int (Int.ofNat (gwK (y.wl.map (·.1)) f k)) tk') (es1 (wf w b) y ++ [en (wf w b) c_kept q6 v6, en (wf w b) c_turn q7 v7]) e2) :: (z1.n + 188, cellO (.ref (y.we + 186))) :: (y.we + 186, listO (intV y.wl) y.wep) :: r) (n' + 186) → R (.ok .next) (sh h' gl dr t' os)) →
  cA w b A₀ (whOf (tnStmt (wf w b).params 1) (lawEnv (wf w b).params z1.n)) R (sh h gl dr t os) := by
 intro f
 induction f using Nat.strongRecOn with
 | _ f ih =>
  intro k tk n t h hf hk S next
  have hm : (intV y.wl).length = y.wl.length := len_intV _
  by_cases h1 : k + 2 < y.wl.length
  ·obtain ⟨p, hp⟩ : ∃ p, y.wl[k]? = some p := ⟨y.wl[k], by simp⟩
   obtain ⟨q, hq⟩ : ∃ q, y.wl[k + 2]? = some q := ⟨y.wl[k + 2], by simp⟩
   have hp' : (y.wl.map (·.1))[k]? = some p.1 := by simp [hp]
   have hq' : (y.wl.map (·.1))[k + 2]? = some q.1 := by simp [hq]
   have d1 : decide ((Int.ofNat (k + 2)) < Int.ofNat y.wl.length) = true := by simp; lia
   cases f with
   | zero => lia
   | succ f =>
    by_cases h2 : p.1 > q.1
    ·have e : gwK (y.wl.map (·.1)) (f + 1) k = gwK (y.wl.map (·.1)) f (k + 1) := by
      unfold gwK
      rw [hp', hq']
      simp only [if_pos h2]
      cases f <;> rfl
     rw [e] at next
     refine wkT_t O hA hm hm2 hk d1 (intV_get hp) (intV_get hq) (by simp; lia) S fun h' t' S' => ?_
     exact ih f (Nat.lt_succ_self f) (k + 1) _ _ _ _ (by lia) (by lia) S' next
    ·have e : gwK (y.wl.map (·.1)) (f + 1) k = k := by
      unfold gwK
      rw [hp', hq']
      simp only [if_neg h2]
     rw [e] at next
     exact wkG_t O hA hm hm2 hk d1 (intV_get hp) (intV_get hq) (by simp; lia) S fun h' t' S' => next h' n t' tk S'
  ·have e : gwK (y.wl.map (·.1)) f k = k := by
    cases f with
    | zero => rfl
    | succ f =>
     unfold gwK
     have : (y.wl.map (·.1))[k + 2]? = none := by simp; lia
     rw [this]
     cases (y.wl.map (·.1))[k]? <;> rfl
   rw [e] at next
   have d1 : decide ((Int.ofNat (k + 2)) < Int.ofNat y.wl.length) = false := by simp; lia
   exact wkF_t (wa := 0) (ta := 0) (wb := 0) (tb := 0) O hA hm hm2 hk d1 S fun h' t' S' => next h' n t' tk S'
theorem gap_wk {idx : List Nat} (hA' : AOk A₀ 200) (hsz : 186 ≤ h₀.h.objs.size) (hi : idx.Nodup) (hm2 : y.wl.length < 100) {K tk : Nat} (hK : gwK (y.wl.map (·.1)) y.wl.length 0 = K) :
  GapOk (Bw w b h₀) A₀ 3 idx [(z1.n + 186, lawB (wf w b) lay z1 z2 z3 ep kt (.int 0 tk) (es1 (wf w b) y ++ [en (wf w b) c_kept q6 v6, en (wf w b) c_turn q7 v7]) e2), (z1.n + 188, cellO (.ref (y.we + 186))), (y.we + 186, listO (intV y.wl) y.wep)]
   (whOf (tnStmt (wf w b).params 1) (lawEnv (wf w b).params z1.n)) (fun φ => .ok .next) (fun φ => [lawB (wf w b) lay z1 z2 z3 ep kt (.int (Int.ofNat K) (φ 2)) (es1 (wf w b) y ++ [en (wf w b) c_kept q6 v6, en (wf w b) c_turn q7 v7]) e2]) := by
 subst hK
 refine gap_of hi hsz fun κ h gl dr t os R r n hd' hk S next => ?_
 refine wk_run O (AOk.over (d := 140) (hA'.le (by lia)) hd') hm2 y.wl.length 0 tk n t h (by lia) (by lia) S fun h' n' t' tk' S' => ?_
 exact next (fun i => match i with
  | 0 => n'
  | 1 => t'
  | _ => tk') h' S'
end
section
variable {h₀ : HS} {w : World} {b : Bool} (O : (Bw w b h₀).Ok) {A₀ : Around} (hA : AOk A₀ 140) {R : Result → Shared → Prop} {dr : Drawn} {os : OsState} {h : Heap}
include O hA
theorem c2TA_t {it acc loc fr cw cb n t tb j q ep kk jp tp wj tj both : Nat} {y : ZT} {vs : List Value} {r : Led} {gl : List GenState} (hj : (intV y.wl)[j]? = some (.int (Int.ofNat wj) tj)) (hj2 : j < 100) (hr : decide (Int.ofNat wj ≥ Int.ofNat both) = true) (hz : vs.length < 1000) (S₀ : St (Bw w b h₀) h ((it + 186, rangeItO j (q + 1)) :: (acc + 186, listO vs ep) :: (loc + 186, dictO 0 []) :: (cw + 186, cellO (.ref (y.we + 186))) :: (y.we + 186, listO (intV y.wl) y.wep) :: (cb + 186, cellO (.int (Int.ofNat both) tb)) :: r) (n + 186))
  (next : ∀ h' t', St (Bw w b h₀) h' ((it + 186, rI (Int.ofNat (j + 1)) (Int.ofNat (q + 1) - 1)) :: (acc + 186, listO ((vs ++ [Value.int (Int.ofNat j) t])) (ep + 1)) :: (loc + 186, dictO 1 [en (wf w b) [106] (t + 1) (.int (Int.ofNat j) t)]) :: (cw + 186, cellO (.ref (y.we + 186))) :: (y.we + 186, listO (intV y.wl) y.wep) :: (cb + 186, cellO (.int (Int.ofNat both) tb)) :: r) ((n + 186)) → cA w b A₀ (c2 (wf w b).params (it + 186) (acc + 186) (loc + 186) (fr + 186) (cw + 186) (cb + 186)) R (sh h' gl dr t' os)) :
  cA w b A₀ (c2 (wf w b).params (it + 186) (acc + 186) (loc + 186) (fr + 186) (cw + 186) (cb + 186)) R (sh h gl dr t os) := by
 exact code_run (f := 49) (ls := (dg 20 140079460533851869697979864776695302338)) (qs := [(3, .ora [4] [((y.we + 186), listO ((intV y.wl)) y.wep)] (lgi [.ref (y.we + 186), .int (Int.ofNat j) t]) (fun t => Value.int (Int.ofNat wj) tj) 0), (1, .ora [] [] (bi "int.__ge__" [.int (Int.ofNat wj) tj, .int (Int.ofNat both) tb]) (fun t => Value.bool true) 0), (1, .mov [1] [((acc + 186), listO ((vs)) ep)] (bi "list.append" [.ref (acc + 186), .int (Int.ofNat j) t]) (fun n t => .ok (.ret (.none))) 0 [listO (vs ++ [Value.int (Int.ofNat j) t]) (ep + 1)] (fun n => [])), (0, .cut)]) O hA  (aC (ora_list_item _ _ _ _ _ _ hj (by lia)) <| aC (ora_ge _ _ _ _ _ hr) <| aC (mov_append _ _ _ _ _ _ hz) <| aC trivial <| aN) (fine_loop (is := [0, 1, 2, 3, 4, 5]) (d := 6) (Vw.Is.eq (by refine Bool.rec ?_ ?_ b <;> and_intros <;> kernel_rfl)) rfl (next)) S₀
theorem c2TB_t {it acc loc fr cw cb n t tb j q ep kk jp tp wj tj both : Nat} {y : ZT} {vs : List Value} {r : Led} {gl : List GenState} (hj : (intV y.wl)[j]? = some (.int (Int.ofNat wj) tj)) (hj2 : j < 100) (hr : decide (Int.ofNat wj ≥ Int.ofNat both) = true) (hz : vs.length < 1000) (S₀ : St (Bw w b h₀) h ((it + 186, rangeItO j (q + 1)) :: (acc + 186, listO vs ep) :: (loc + 186, dictO 1 [en (wf w b) [106] kk (.int (Int.ofNat jp) tp)]) :: (cw + 186, cellO (.ref (y.we + 186))) :: (y.we + 186, listO (intV y.wl) y.wep) :: (cb + 186, cellO (.int (Int.ofNat both) tb)) :: r) (n + 186))
  (next : ∀ h' t', St (Bw w b h₀) h' ((it + 186, rI (Int.ofNat (j + 1)) (Int.ofNat (q + 1) - 1)) :: (acc + 186, listO ((vs ++ [Value.int (Int.ofNat j) t])) (ep + 1)) :: (loc + 186, dictO 1 [en (wf w b) [106] kk (.int (Int.ofNat j) t)]) :: (cw + 186, cellO (.ref (y.we + 186))) :: (y.we + 186, listO (intV y.wl) y.wep) :: (cb + 186, cellO (.int (Int.ofNat both) tb)) :: r) ((n + 186)) → cA w b A₀ (c2 (wf w b).params (it + 186) (acc + 186) (loc + 186) (fr + 186) (cw + 186) (cb + 186)) R (sh h' gl dr t' os)) :
  cA w b A₀ (c2 (wf w b).params (it + 186) (acc + 186) (loc + 186) (fr + 186) (cw + 186) (cb + 186)) R (sh h gl dr t os) := by
 exact code_run (f := 49) (ls := (dg 20 140079460533851869697979864776695302338)) (qs := [(3, .ora [4] [((y.we + 186), listO ((intV y.wl)) y.wep)] (lgi [.ref (y.we + 186), .int (Int.ofNat j) t]) (fun t => Value.int (Int.ofNat wj) tj) 0), (1, .ora [] [] (bi "int.__ge__" [.int (Int.ofNat wj) tj, .int (Int.ofNat both) tb]) (fun t => Value.bool true) 0), (1, .mov [1] [((acc + 186), listO ((vs)) ep)] (bi "list.append" [.ref (acc + 186), .int (Int.ofNat j) t]) (fun n t => .ok (.ret (.none))) 0 [listO (vs ++ [Value.int (Int.ofNat j) t]) (ep + 1)] (fun n => [])), (0, .cut)]) O hA  (aC (ora_list_item _ _ _ _ _ _ hj (by lia)) <| aC (ora_ge _ _ _ _ _ hr) <| aC (mov_append _ _ _ _ _ _ hz) <| aC trivial <| aN) (fine_loop (is := [0, 1, 2, 3, 4, 5]) (d := 6) (Vw.Is.eq (by refine Bool.rec ?_ ?_ b <;> and_intros <;> kernel_rfl)) rfl (next)) S₀
theorem c2FA_t {it acc loc fr cw cb n t tb j q ep kk jp tp wj tj both : Nat} {y : ZT} {vs : List Value} {r : Led} {gl : List GenState} (hj : (intV y.wl)[j]? = some (.int (Int.ofNat wj) tj)) (hj2 : j < 100) (hr : decide (Int.ofNat wj ≥ Int.ofNat both) = false) (hz : vs.length < 1000) (S₀ : St (Bw w b h₀) h ((it + 186, rangeItO j (q + 1)) :: (acc + 186, listO vs ep) :: (loc + 186, dictO 0 []) :: (cw + 186, cellO (.ref (y.we + 186))) :: (y.we + 186, listO (intV y.wl) y.wep) :: (cb + 186, cellO (.int (Int.ofNat both) tb)) :: r) (n + 186))
  (next : ∀ h' t', St (Bw w b h₀) h' ((it + 186, rI (Int.ofNat (j + 1)) (Int.ofNat (q + 1) - 1)) :: (acc + 186, listO vs ep) :: (loc + 186, dictO 1 [en (wf w b) [106] (t + 1) (.int (Int.ofNat j) t)]) :: (cw + 186, cellO (.ref (y.we + 186))) :: (y.we + 186, listO (intV y.wl) y.wep) :: (cb + 186, cellO (.int (Int.ofNat both) tb)) :: r) ((n + 186)) → cA w b A₀ (c2 (wf w b).params (it + 186) (acc + 186) (loc + 186) (fr + 186) (cw + 186) (cb + 186)) R (sh h' gl dr t' os)) :
  cA w b A₀ (c2 (wf w b).params (it + 186) (acc + 186) (loc + 186) (fr + 186) (cw + 186) (cb + 186)) R (sh h gl dr t os) := by
 exact code_run (f := 44) (ls := (dg 18 35286605046468595486910076818245826)) (qs := [(3, .ora [4] [((y.we + 186), listO ((intV y.wl)) y.wep)] (lgi [.ref (y.we + 186), .int (Int.ofNat j) t]) (fun t => Value.int (Int.ofNat wj) tj) 0), (1, .ora [] [] (bi "int.__ge__" [.int (Int.ofNat wj) tj, .int (Int.ofNat both) tb]) (fun t => Value.bool false) 0), (0, .cut)]) O hA  (aC (ora_list_item _ _ _ _ _ _ hj (by lia)) <| aC (ora_ge _ _ _ _ _ hr) <| aC trivial <| aN) (fine_loop (is := [0, 1, 2, 3, 4, 5]) (d := 6) (Vw.Is.eq (by refine Bool.rec ?_ ?_ b <;> and_intros <;> kernel_rfl)) rfl (next)) S₀
theorem c2FB_t {it acc loc fr cw cb n t tb j q ep kk jp tp wj tj both : Nat} {y : ZT} {vs : List Value} {r : Led} {gl : List GenState} (hj : (intV y.wl)[j]? = some (.int (Int.ofNat wj) tj)) (hj2 : j < 100) (hr : decide (Int.ofNat wj ≥ Int.ofNat both) = false) (hz : vs.length < 1000) (S₀ : St (Bw w b h₀) h ((it + 186, rangeItO j (q + 1)) :: (acc + 186, listO vs ep) :: (loc + 186, dictO 1 [en (wf w b) [106] kk (.int (Int.ofNat jp) tp)]) :: (cw + 186, cellO (.ref (y.we + 186))) :: (y.we + 186, listO (intV y.wl) y.wep) :: (cb + 186, cellO (.int (Int.ofNat both) tb)) :: r) (n + 186))
  (next : ∀ h' t', St (Bw w b h₀) h' ((it + 186, rI (Int.ofNat (j + 1)) (Int.ofNat (q + 1) - 1)) :: (acc + 186, listO vs ep) :: (loc + 186, dictO 1 [en (wf w b) [106] kk (.int (Int.ofNat j) t)]) :: (cw + 186, cellO (.ref (y.we + 186))) :: (y.we + 186, listO (intV y.wl) y.wep) :: (cb + 186, cellO (.int (Int.ofNat both) tb)) :: r) ((n + 186)) → cA w b A₀ (c2 (wf w b).params (it + 186) (acc + 186) (loc + 186) (fr + 186) (cw + 186) (cb + 186)) R (sh h' gl dr t' os)) :
  cA w b A₀ (c2 (wf w b).params (it + 186) (acc + 186) (loc + 186) (fr + 186) (cw + 186) (cb + 186)) R (sh h gl dr t os) := by
 exact code_run (f := 44) (ls := (dg 18 35286605046468595486910076818245826)) (qs := [(3, .ora [4] [((y.we + 186), listO ((intV y.wl)) y.wep)] (lgi [.ref (y.we + 186), .int (Int.ofNat j) t]) (fun t => Value.int (Int.ofNat wj) tj) 0), (1, .ora [] [] (bi "int.__ge__" [.int (Int.ofNat wj) tj, .int (Int.ofNat both) tb]) (fun t => Value.bool false) 0), (0, .cut)]) O hA  (aC (ora_list_item _ _ _ _ _ _ hj (by lia)) <| aC (ora_ge _ _ _ _ _ hr) <| aC trivial <| aN) (fine_loop (is := [0, 1, 2, 3, 4, 5]) (d := 6) (Vw.Is.eq (by refine Bool.rec ?_ ?_ b <;> and_intros <;> kernel_rfl)) rfl (next)) S₀
theorem c2Z_t {it acc loc fr cw cb n t tb j q ep kk jp tp wj tj both : Nat} {y : ZT} {vs : List Value} {r : Led} {gl : List GenState} (S₀ : St (Bw w b h₀) h ((it + 186, rangeItO j 0) :: r) (n + 186))
  (next : ∀ h' t', St (Bw w b h₀) h' ((it + 186, rangeItO j 0) :: r) ((n + 188)) → R (.ok PySem.Flow.next) (sh h' gl dr t' os)) :
  cA w b A₀ (c2 (wf w b).params (it + 186) (acc + 186) (loc + 186) (fr + 186) (cw + 186) (cb + 186)) R (sh h gl dr t os) := by
 exact code_run (f := 20) (ls := [1, 1, 1, 1, 1, 1]) (qs := []) O hA  aN (fine_done (is := [2]) (d := 3) (Vw.Is.eq (by refine Bool.rec ?_ ?_ b <;> and_intros <;> kernel_rfl)) rfl (next)) S₀
end
noncomputable def gwJ (both : Nat) : List Nat → Nat → List Nat
 | [], _ => []
 | x :: xs, j => if x ≥ both then j :: gwJ both xs (j + 1) else gwJ both xs (j + 1)
theorem gwJ_len (both : Nat) : ∀ (l : List Nat) (j : Nat), (gwJ both l j).length ≤ l.length
 | [], _ => Nat.le_refl _
 | x :: xs, j => by
  unfold gwJ
  have := gwJ_len both xs (j + 1)
  split <;> simp <;> lia
theorem rIt (j q : Nat) : (rI (Int.ofNat (j + 1)) (Int.ofNat (q + 1) - 1) : Obj) = rangeItO (j + 1) q := by
 have : Int.ofNat (q + 1) - 1 = Int.ofNat q := by simp
 unfold rangeItO
 rw [this]
noncomputable def c2Loc (w : World) (kz : Bool) (a j t : Nat) : Obj := match kz with
 | true => dictO 0 []
 | false => dictO 1 [en w [106] a (.int (Int.ofNat j) t)]
noncomputable def c2L (kz : Bool) : List Nat := match kz with
 | true => []
 | false => [1, 1]
section
variable {h₀ : HS} {w : World} {b : Bool} (O : (Bw w b h₀).Ok) {A₀ : Around} (hA : AOk A₀ 140) {R : Result → Shared → Prop} {dr : Drawn} {os : OsState} {it acc loc fr cw cb tb both : Nat} {y : ZT} {r : Led} {gl : List GenState}
include O hA
theorem c2_run : ∀ (rest : List (Nat × Nat)) (q j n t ep kk tp jp : Nat) (vs : List Value) (h : Heap), (∃ x, y.wl.drop j = rest ++ x) → q = rest.length → j + rest.length < 100 → vs.length + rest.length < 1000 →
  St (Bw w b h₀) h ((it + 186, rangeItO j q) :: (acc + 186, listO vs ep) :: (loc + 186, dictO 1 [en (wf w b) [106] kk (.int (Int.ofNat jp) tp)]) :: (cw + 186, cellO (.ref (y.we + 186))) :: (y.we + 186, listO (intV y.wl) y.wep) :: (cb + 186, cellO (.int (Int.ofNat both) tb)) :: r) (n + 186) →
  (∀ h' n' t' l ep' kk' jp' tp', l.length = (gwJ both (rest.map (·.1)) j).length → St (Bw w b h₀) h' ((it + 186, rangeItO (j + rest.length) 0) :: (acc + 186, listO (vs ++ intV ((gwJ both (rest.map (·.1)) j).zip l)) ep') :: (loc + 186, dictO 1 [en (wf w b) [106] kk' (.int (Int.ofNat jp') tp')]) :: (cw + 186, cellO (.ref (y.we + 186))) :: (y.we + 186, listO (intV y.wl) y.wep) :: (cb + 186, cellO (.int (Int.ofNat both) tb)) :: r) (n' + 186) → R (.ok .next) (sh h' gl dr t' os)) →
  cA w b A₀ (c2 (wf w b).params (it + 186) (acc + 186) (loc + 186) (fr + 186) (cw + 186) (cb + 186)) R (sh h gl dr t os)
 | [], q, j, n, t, ep, kk, tp, jp, vs, h, hd, hq, hj, hz, S, next => by
  subst hq
  refine c2Z_t (q := 0) (tj := 0) (wj := 0) (both := 0) (tb := 0) (cw := cw) (cb := cb) (y := y) (ep := 0) (kk := 0) (jp := 0) (tp := 0) (vs := []) (acc := acc) (loc := loc) (fr := fr) O hA S fun h' t' S' => ?_
  have e : vs ++ intV ((gwJ both (([] : List (Nat × Nat)).map (·.1)) j).zip []) = vs := by simp [gwJ, intV]
  exact next h' (n + 2) t' [] ep kk jp tp rfl (by rw [e]; exact S')
 | p :: rest, q, j, n, t, ep, kk, tp, jp, vs, h, hd, hq, hj, hz, S, next => by
  subst hq
  obtain ⟨x, hx⟩ := hd
  obtain ⟨hg, hd'⟩ := drop_cons_get hx
  simp only [List.length_cons] at hj hz S
  by_cases hb : p.1 ≥ both
  ·have e : gwJ both ((p :: rest).map (·.1)) j = j :: gwJ both (rest.map (·.1)) (j + 1) := by
    show (if p.1 ≥ both then _ else _) = _
    rw [if_pos hb]
   rw [e] at next
   refine c2TB_t O hA (intV_get hg) (by lia) (by simp; lia) (by lia) S fun h' t' S' => ?_
   rw [rIt] at S'
   refine c2_run rest _ (j + 1) _ _ _ _ _ _ _ _ ⟨x, hd'⟩ rfl (by lia) (by simp; lia) S' fun h' n' t' l ep' kk' jp' tp' hl S2 => next h' n' t' (t :: l) ep' kk' jp' tp' (by simp [hl]) ?_
   have e2 : j + (rest.length + 1) = j + 1 + rest.length := by lia
   rw [List.length_cons, e2]
   simpa [intV] using S2
  ·have e : gwJ both ((p :: rest).map (·.1)) j = gwJ both (rest.map (·.1)) (j + 1) := by
    show (if p.1 ≥ both then _ else _) = _
    rw [if_neg hb]
   rw [e] at next
   refine c2FB_t O hA (intV_get hg) (by lia) (by simp; lia) (by lia) S fun h' t' S' => ?_
   rw [rIt] at S'
   refine c2_run rest _ (j + 1) _ _ _ _ _ _ _ _ ⟨x, hd'⟩ rfl (by lia) (by lia) S' fun h' n' t' l ep' kk' jp' tp' hl S2 => next h' n' t' l ep' kk' jp' tp' hl ?_
   have e2 : j + (rest.length + 1) = j + 1 + rest.length := by lia
   rw [List.length_cons, e2]
   exact S2
theorem gap_c2 {idx : List Nat} {ep K : Nat} (hA' : AOk A₀ 200) (hsz : 186 ≤ h₀.h.objs.size) (hi : idx.Nodup) (kz : Bool) (hK : K ≤ y.wl.length) (hwl : y.wl.length < 100) (hkz : kz = decide (K = 0)) {js : List Nat} (hjs : gwJ both ((y.wl.take K).map (·.1)) 0 = js) :
  GapOk (Bw w b h₀) A₀ 3 idx [(it + 186, rangeItO 0 K), (acc + 186, listO [] ep), (loc + 186, dictO 0 []), (cw + 186, cellO (.ref (y.we + 186))), (y.we + 186, listO (intV y.wl) y.wep), (cb + 186, cellO (.int (Int.ofNat both) tb))] (c2 (wf w b).params (it + 186) (acc + 186) (loc + 186) (fr + 186) (cw + 186) (cb + 186)) (fun φ => .ok .next)
   (fun φ => [rangeItO K 0, listO (intV (js.zip (frL φ js.length))) (φ 2), c2Loc (wf w b) kz (φ 3) (φ 4) (φ 5)]) := by
 refine gap_of hi hsz fun κ h gl dr t os R r n hd' hk S next => ?_
 have hA2 : AOk (arnd A₀ κ) 140 := AOk.over (d := 140) (hA'.le (by lia)) hd'
 have fin : ∀ (h' : Heap) (n' t' : Nat) (l : List Nat) (ep' kk' jp' tp' : Nat), l.length = js.length → kz = false → St (Bw w b h₀) h' ((it + 186, rangeItO K 0) :: (acc + 186, listO (intV (js.zip l)) ep') :: (loc + 186, dictO 1 [en (wf w b) [106] kk' (.int (Int.ofNat jp') tp')]) :: (cw + 186, cellO (.ref (y.we + 186))) :: (y.we + 186, listO (intV y.wl) y.wep) :: (cb + 186, cellO (.int (Int.ofNat both) tb)) :: r) (n' + 186) → R (.ok .next) (sh h' gl dr t' os) := by
  intro h' n' t' l ep' kk' jp' tp' hl hz S'
  subst hz
  have e := frL_of l (fun i => match i with
   | 0 => n'
   | 1 => t'
   | 2 => ep'
   | 3 => kk'
   | 4 => jp'
   | _ => tp')
  have := next (fun i => if i < 9 then (match i with
   | 0 => n'
   | 1 => t'
   | 2 => ep'
   | 3 => kk'
   | 4 => jp'
   | _ => tp') else (l[i - 9]?).getD 0) h'
  rw [← hl, e] at this
  exact this S'
 cases K with
 | zero =>
  have : kz = true := by simpa using hkz
  subst this
  have : js = [] := by rw [← hjs]; rfl
  subst this
  refine c2Z_t (q := 0) (tj := 0) (wj := 0) (both := 0) (tb := 0) (cw := cw) (cb := cb) (y := y) (ep := 0) (kk := 0) (jp := 0) (tp := 0) (vs := []) (acc := acc) (loc := loc) (fr := fr) O hA2 S fun h' t' S' => ?_
  exact next (fun i => match i with
   | 0 => n + 2
   | 1 => t'
   | _ => ep) h' S'
 | succ K =>
  have hz : kz = false := by simpa using hkz
  cases hw : y.wl with
  | nil => rw [hw] at hK; simp at hK
  | cons p wl =>
   have hg : y.wl[0]? = some p := by rw [hw]; rfl
   have htk : (y.wl.take (K + 1)).map (·.1) = p.1 :: (wl.take K).map (·.1) := by rw [hw]; rfl
   have hKl : K ≤ wl.length := by rw [hw] at hK; simpa using hK
   have hdr : ∃ x, y.wl.drop 1 = wl.take K ++ x := ⟨wl.drop K, by rw [hw]; simp⟩
   have hlen : (wl.take K).length = K := by simp; lia
   have hwl2 : wl.length < 99 := by rw [hw] at hwl; simp at hwl; lia
   rw [htk] at hjs
   by_cases hb : p.1 ≥ both
   ·have e : gwJ both (p.1 :: (wl.take K).map (·.1)) 0 = 0 :: gwJ both ((wl.take K).map (·.1)) 1 := by
     show (if p.1 ≥ both then _ else _) = _
     rw [if_pos hb]
    rw [e] at hjs
    refine c2TA_t (kk := 0) (jp := 0) (tp := 0) O hA2 (intV_get hg) (by lia) (by simp; lia) (by simp) S fun h' t' S' => ?_
    rw [rIt] at S'
    refine c2_run O hA2 (wl.take K) _ 1 _ _ _ _ _ _ _ _ hdr hlen.symm (by lia) (by simp; lia) S' fun h' n' t' l ep' kk' jp' tp' hl S2 => ?_
    refine fin h' n' t' (t :: l) ep' kk' jp' tp' (by rw [← hjs]; simp [hl]) hz ?_
    have e2 : 1 + (wl.take K).length = K + 1 := by lia
    rw [e2] at S2
    rw [← hjs]
    simpa [intV] using S2
   ·have e : gwJ both (p.1 :: (wl.take K).map (·.1)) 0 = gwJ both ((wl.take K).map (·.1)) 1 := by
     show (if p.1 ≥ both then _ else _) = _
     rw [if_neg hb]
    rw [e] at hjs
    refine c2FA_t (kk := 0) (jp := 0) (tp := 0) O hA2 (intV_get hg) (by lia) (by simp; lia) (by simp) S fun h' t' S' => ?_
    rw [rIt] at S'
    refine c2_run O hA2 (wl.take K) _ 1 _ _ _ _ _ _ _ _ hdr hlen.symm (by lia) (by simp; lia) S' fun h' n' t' l ep' kk' jp' tp' hl S2 => ?_
    refine fin h' n' t' l ep' kk' jp' tp' (by rw [← hjs]; exact hl) hz ?_
    have e2 : 1 + (wl.take K).length = K + 1 := by lia
    rw [e2] at S2
    rw [← hjs]
    exact S2
end
section
variable {h₀ : HS} {w : World} {b : Bool} (O : (Bw w b h₀).Ok) {A₀ : Around} (hA : AOk A₀ 140) {R : Result → Shared → Prop} {dr : Drawn} {os : OsState} {h : Heap}
include O hA
theorem maxS_t {l ep it sp i se n t ta tm : Nat} {va vm : Int} {vs : List Value} {r : Led} {gl : List GenState} (S₀ : St (Bw w b h₀) h ((l + 186, listO vs ep) :: r) (n + 186))
  (next : ∀ h' t', St (Bw w b h₀) h' ((n + 186, lI (l + 186) 0) :: (n + 187, listO [] 0) :: (l + 186, listO vs ep) :: r) ((n + 188)) → cA w b A₀ (bi "max.loop" [.ref (n + 186), .none, .ref (n + 1 + 186)]) R (sh h' gl dr t' os)) :
  cA w b A₀ (bi "max" [.ref (l + 186)]) R (sh h gl dr t os) := by
 exact code_run (f := 16) (ls := [1, 1, 1, 1]) (qs := [(2, .cut)]) O hA  (aC trivial <| aN) (fine_loop (is := [1, 0, 2]) (d := 3) (Vw.Is.eq (by refine Bool.rec ?_ ?_ b <;> and_intros <;> kernel_rfl)) rfl (next)) S₀
theorem maxA_t {l ep it sp i se n t ta tm : Nat} {va vm : Int} {vs : List Value} {r : Led} {gl : List GenState} (hx : vs[i]? = some (.int va ta))  (S₀ : St (Bw w b h₀) h ((it + 186, liO (l + 186) i) :: (sp + 186, listO [] se) :: (l + 186, listO vs ep) :: r) (n + 186))
  (next : ∀ h' t', St (Bw w b h₀) h' ((it + 186, lI (l + 186) (Int.ofNat (i + 1))) :: (sp + 186, listO [.int (va) ta, .int (va) ta] (se + 1)) :: (l + 186, listO vs ep) :: r) ((n + 186)) → cA w b A₀ (bi "max.loop" [.ref (it + 186), .none, .ref (sp + 186)]) R (sh h' gl dr t' os)) :
  cA w b A₀ (bi "max.loop" [.ref (it + 186), .none, .ref (sp + 186)]) R (sh h gl dr t os) := by
 exact code_run (f := 14) (ls := [2, 1, 1, 2, 2, 2]) (qs := [(1, .mov [0, 2] [((it + 186), lI (l + 186) (Int.ofNat i)), ((l + 186), listO ((vs)) ep)] (bi "list_iterator.__next__" [.ref (it + 186)]) (fun n t => .ok (.ret (.int va ta))) 0 [liO (l + 186) (i + 1)] (fun n => [])), (0, .cut)]) O hA  (aC (mov_li_next _ _ _ _ _ _ _ rfl hx) <| aC trivial <| aN) (fine_loop (is := [0, 1, 2]) (d := 3) (Vw.Is.eq (by refine Bool.rec ?_ ?_ b <;> and_intros <;> kernel_rfl)) rfl (next)) S₀
theorem maxT_t {l ep it sp i se n t ta tm : Nat} {va vm : Int} {vs : List Value} {r : Led} {gl : List GenState} (hx : vs[i]? = some (.int va ta)) (hc : decide (va > vm) = true) (S₀ : St (Bw w b h₀) h ((it + 186, liO (l + 186) i) :: (sp + 186, listO [.int vm tm, .int vm tm] se) :: (l + 186, listO vs ep) :: r) (n + 186))
  (next : ∀ h' t', St (Bw w b h₀) h' ((it + 186, lI (l + 186) (Int.ofNat (i + 1))) :: (sp + 186, listO [.int (va) ta, .int (va) ta] se) :: (l + 186, listO vs ep) :: r) ((n + 186)) → cA w b A₀ (bi "max.loop" [.ref (it + 186), .none, .ref (sp + 186)]) R (sh h' gl dr t' os)) :
  cA w b A₀ (bi "max.loop" [.ref (it + 186), .none, .ref (sp + 186)]) R (sh h gl dr t os) := by
 exact code_run (f := 20) (ls := [2, 1, 1, 2, 2, 2]) (qs := [(1, .mov [0, 2] [((it + 186), lI (l + 186) (Int.ofNat i)), ((l + 186), listO ((vs)) ep)] (bi "list_iterator.__next__" [.ref (it + 186)]) (fun n t => .ok (.ret (.int va ta))) 0 [liO (l + 186) (i + 1)] (fun n => [])), (1, .ora [] [] (bi "int.__gt__" [.int (va) ta, .int (vm) tm]) (fun t => Value.bool true) 0), (0, .cut)]) O hA  (aC (mov_li_next _ _ _ _ _ _ _ rfl hx) <| aC (ora_gt _ _ _ _ _ hc) <| aC trivial <| aN) (fine_loop (is := [0, 1, 2]) (d := 3) (Vw.Is.eq (by refine Bool.rec ?_ ?_ b <;> and_intros <;> kernel_rfl)) rfl (next)) S₀
theorem maxF_t {l ep it sp i se n t ta tm : Nat} {va vm : Int} {vs : List Value} {r : Led} {gl : List GenState} (hx : vs[i]? = some (.int va ta)) (hc : decide (va > vm) = false) (S₀ : St (Bw w b h₀) h ((it + 186, liO (l + 186) i) :: (sp + 186, listO [.int vm tm, .int vm tm] se) :: (l + 186, listO vs ep) :: r) (n + 186))
  (next : ∀ h' t', St (Bw w b h₀) h' ((it + 186, lI (l + 186) (Int.ofNat (i + 1))) :: (sp + 186, listO [.int vm tm, .int vm tm] se) :: (l + 186, listO vs ep) :: r) ((n + 186)) → cA w b A₀ (bi "max.loop" [.ref (it + 186), .none, .ref (sp + 186)]) R (sh h' gl dr t' os)) :
  cA w b A₀ (bi "max.loop" [.ref (it + 186), .none, .ref (sp + 186)]) R (sh h gl dr t os) := by
 exact code_run (f := 17) (ls := [2, 1, 1]) (qs := [(1, .mov [0, 2] [((it + 186), lI (l + 186) (Int.ofNat i)), ((l + 186), listO ((vs)) ep)] (bi "list_iterator.__next__" [.ref (it + 186)]) (fun n t => .ok (.ret (.int va ta))) 0 [liO (l + 186) (i + 1)] (fun n => [])), (1, .ora [] [] (bi "int.__gt__" [.int (va) ta, .int (vm) tm]) (fun t => Value.bool false) 0), (0, .cut)]) O hA  (aC (mov_li_next _ _ _ _ _ _ _ rfl hx) <| aC (ora_gt _ _ _ _ _ hc) <| aC trivial <| aN) (fine_loop (is := [0, 1, 2]) (d := 3) (Vw.Is.eq (by refine Bool.rec ?_ ?_ b <;> and_intros <;> kernel_rfl)) rfl (next)) S₀
theorem maxZ_t {l ep it sp i se n t ta tm : Nat} {va vm : Int} {vs : List Value} {r : Led} {gl : List GenState} (hx : vs[i]? = none) (S₀ : St (Bw w b h₀) h ((it + 186, liO (l + 186) i) :: (sp + 186, listO [.int vm tm, .int vm tm] se) :: (l + 186, listO vs ep) :: r) (n + 186))
  (next : ∀ h' t', St (Bw w b h₀) h' ((l + 186, listO vs ep) :: r) ((n + 188)) → R (.ok (.ret (.int (vm) tm))) (sh h' gl dr t' os)) :
  cA w b A₀ (bi "max.loop" [.ref (it + 186), .none, .ref (sp + 186)]) R (sh h gl dr t os) := by
 exact code_run (f := 16) (ls := [2, 1, 1, 1, 4, 4, 4]) (qs := [(1, .mov [0, 2] [((it + 186), lI (l + 186) (Int.ofNat i)), ((l + 186), listO ((vs)) ep)] (bi "list_iterator.__next__" [.ref (it + 186)]) (fun n t => .error (.ref (n + 1))) 0 [liE i] (fun n => [tupO [], stopO n]))]) O hA  (aC (mov_li_end _ _ _ _ _ _ rfl hx) <| aN) (fine_done (is := [4]) (d := 5) (Vw.Is.eq (by refine Bool.rec ?_ ?_ b <;> and_intros <;> kernel_rfl)) rfl (next)) S₀
theorem minS_t {l ep it sp i se n t ta tm : Nat} {va vm : Int} {vs : List Value} {r : Led} {gl : List GenState} (S₀ : St (Bw w b h₀) h ((l + 186, listO vs ep) :: r) (n + 186))
  (next : ∀ h' t', St (Bw w b h₀) h' ((n + 186, lI (l + 186) 0) :: (n + 187, listO [] 0) :: (l + 186, listO vs ep) :: r) ((n + 188)) → cA w b A₀ (bi "min.loop" [.ref (n + 186), .none, .ref (n + 1 + 186)]) R (sh h' gl dr t' os)) :
  cA w b A₀ (bi "min" [.ref (l + 186)]) R (sh h gl dr t os) := by
 exact code_run (f := 16) (ls := [1, 1, 1, 1]) (qs := [(2, .cut)]) O hA  (aC trivial <| aN) (fine_loop (is := [1, 0, 2]) (d := 3) (Vw.Is.eq (by refine Bool.rec ?_ ?_ b <;> and_intros <;> kernel_rfl)) rfl (next)) S₀
theorem minA_t {l ep it sp i se n t ta tm : Nat} {va vm : Int} {vs : List Value} {r : Led} {gl : List GenState} (hx : vs[i]? = some (.int va ta))  (S₀ : St (Bw w b h₀) h ((it + 186, liO (l + 186) i) :: (sp + 186, listO [] se) :: (l + 186, listO vs ep) :: r) (n + 186))
  (next : ∀ h' t', St (Bw w b h₀) h' ((it + 186, lI (l + 186) (Int.ofNat (i + 1))) :: (sp + 186, listO [.int (va) ta, .int (va) ta] (se + 1)) :: (l + 186, listO vs ep) :: r) ((n + 186)) → cA w b A₀ (bi "min.loop" [.ref (it + 186), .none, .ref (sp + 186)]) R (sh h' gl dr t' os)) :
  cA w b A₀ (bi "min.loop" [.ref (it + 186), .none, .ref (sp + 186)]) R (sh h gl dr t os) := by
 exact code_run (f := 14) (ls := [2, 1, 1, 2, 2, 2]) (qs := [(1, .mov [0, 2] [((it + 186), lI (l + 186) (Int.ofNat i)), ((l + 186), listO ((vs)) ep)] (bi "list_iterator.__next__" [.ref (it + 186)]) (fun n t => .ok (.ret (.int va ta))) 0 [liO (l + 186) (i + 1)] (fun n => [])), (0, .cut)]) O hA  (aC (mov_li_next _ _ _ _ _ _ _ rfl hx) <| aC trivial <| aN) (fine_loop (is := [0, 1, 2]) (d := 3) (Vw.Is.eq (by refine Bool.rec ?_ ?_ b <;> and_intros <;> kernel_rfl)) rfl (next)) S₀
theorem minT_t {l ep it sp i se n t ta tm : Nat} {va vm : Int} {vs : List Value} {r : Led} {gl : List GenState} (hx : vs[i]? = some (.int va ta)) (hc : decide (va < vm) = true) (S₀ : St (Bw w b h₀) h ((it + 186, liO (l + 186) i) :: (sp + 186, listO [.int vm tm, .int vm tm] se) :: (l + 186, listO vs ep) :: r) (n + 186))
  (next : ∀ h' t', St (Bw w b h₀) h' ((it + 186, lI (l + 186) (Int.ofNat (i + 1))) :: (sp + 186, listO [.int (va) ta, .int (va) ta] se) :: (l + 186, listO vs ep) :: r) ((n + 186)) → cA w b A₀ (bi "min.loop" [.ref (it + 186), .none, .ref (sp + 186)]) R (sh h' gl dr t' os)) :
  cA w b A₀ (bi "min.loop" [.ref (it + 186), .none, .ref (sp + 186)]) R (sh h gl dr t os) := by
 exact code_run (f := 20) (ls := [2, 1, 1, 2, 2, 2]) (qs := [(1, .mov [0, 2] [((it + 186), lI (l + 186) (Int.ofNat i)), ((l + 186), listO ((vs)) ep)] (bi "list_iterator.__next__" [.ref (it + 186)]) (fun n t => .ok (.ret (.int va ta))) 0 [liO (l + 186) (i + 1)] (fun n => [])), (1, .ora [] [] (bi "int.__lt__" [.int (va) ta, .int (vm) tm]) (fun t => Value.bool true) 0), (0, .cut)]) O hA  (aC (mov_li_next _ _ _ _ _ _ _ rfl hx) <| aC (ora_lt _ _ _ _ _ hc) <| aC trivial <| aN) (fine_loop (is := [0, 1, 2]) (d := 3) (Vw.Is.eq (by refine Bool.rec ?_ ?_ b <;> and_intros <;> kernel_rfl)) rfl (next)) S₀
theorem minF_t {l ep it sp i se n t ta tm : Nat} {va vm : Int} {vs : List Value} {r : Led} {gl : List GenState} (hx : vs[i]? = some (.int va ta)) (hc : decide (va < vm) = false) (S₀ : St (Bw w b h₀) h ((it + 186, liO (l + 186) i) :: (sp + 186, listO [.int vm tm, .int vm tm] se) :: (l + 186, listO vs ep) :: r) (n + 186))
  (next : ∀ h' t', St (Bw w b h₀) h' ((it + 186, lI (l + 186) (Int.ofNat (i + 1))) :: (sp + 186, listO [.int vm tm, .int vm tm] se) :: (l + 186, listO vs ep) :: r) ((n + 186)) → cA w b A₀ (bi "min.loop" [.ref (it + 186), .none, .ref (sp + 186)]) R (sh h' gl dr t' os)) :
  cA w b A₀ (bi "min.loop" [.ref (it + 186), .none, .ref (sp + 186)]) R (sh h gl dr t os) := by
 exact code_run (f := 17) (ls := [2, 1, 1]) (qs := [(1, .mov [0, 2] [((it + 186), lI (l + 186) (Int.ofNat i)), ((l + 186), listO ((vs)) ep)] (bi "list_iterator.__next__" [.ref (it + 186)]) (fun n t => .ok (.ret (.int va ta))) 0 [liO (l + 186) (i + 1)] (fun n => [])), (1, .ora [] [] (bi "int.__lt__" [.int (va) ta, .int (vm) tm]) (fun t => Value.bool false) 0), (0, .cut)]) O hA  (aC (mov_li_next _ _ _ _ _ _ _ rfl hx) <| aC (ora_lt _ _ _ _ _ hc) <| aC trivial <| aN) (fine_loop (is := [0, 1, 2]) (d := 3) (Vw.Is.eq (by refine Bool.rec ?_ ?_ b <;> and_intros <;> kernel_rfl)) rfl (next)) S₀
theorem minZ_t {l ep it sp i se n t ta tm : Nat} {va vm : Int} {vs : List Value} {r : Led} {gl : List GenState} (hx : vs[i]? = none) (S₀ : St (Bw w b h₀) h ((it + 186, liO (l + 186) i) :: (sp + 186, listO [.int vm tm, .int vm tm] se) :: (l + 186, listO vs ep) :: r) (n + 186))
  (next : ∀ h' t', St (Bw w b h₀) h' ((l + 186, listO vs ep) :: r) ((n + 188)) → R (.ok (.ret (.int (vm) tm))) (sh h' gl dr t' os)) :
  cA w b A₀ (bi "min.loop" [.ref (it + 186), .none, .ref (sp + 186)]) R (sh h gl dr t os) := by
 exact code_run (f := 16) (ls := [2, 1, 1, 1, 4, 4, 4]) (qs := [(1, .mov [0, 2] [((it + 186), lI (l + 186) (Int.ofNat i)), ((l + 186), listO ((vs)) ep)] (bi "list_iterator.__next__" [.ref (it + 186)]) (fun n t => .error (.ref (n + 1))) 0 [liE i] (fun n => [tupO [], stopO n]))]) O hA  (aC (mov_li_end _ _ _ _ _ _ rfl hx) <| aN) (fine_done (is := [4]) (d := 5) (Vw.Is.eq (by refine Bool.rec ?_ ?_ b <;> and_intros <;> kernel_rfl)) rfl (next)) S₀
end
noncomputable def intW (l : List (Int × Nat)) : List Value := l.map fun p => .int p.1 p.2
noncomputable def maxOf : List (Int × Nat) → Int → Int
 | [], m => m
 | p :: l, m => maxOf l (if p.1 > m then p.1 else m)
noncomputable def minOf : List (Int × Nat) → Int → Int
 | [], m => m
 | p :: l, m => minOf l (if p.1 < m then p.1 else m)
theorem intW_get {l : List (Int × Nat)} {k : Nat} {p : Int × Nat} (h : l[k]? = some p) : (intW l)[k]? = some (.int p.1 p.2) := by simp [intW, h]
section
variable {h₀ : HS} {w : World} {b : Bool} (O : (Bw w b h₀).Ok) {A₀ : Around} (hA : AOk A₀ 140) {R : Result → Shared → Prop} {dr : Drawn} {os : OsState} {l ep : Nat} {xs : List (Int × Nat)} {r : Led} {gl : List GenState}
include O hA
theorem max_run {it sp : Nat} : ∀ (rest : List (Int × Nat)) (i n t se tm : Nat) (vm : Int) (h : Heap), xs.drop i = rest →
  St (Bw w b h₀) h ((it + 186, liO (l + 186) i) :: (sp + 186, listO [.int vm tm, .int vm tm] se) :: (l + 186, listO (intW xs) ep) :: r) (n + 186) →
  (∀ h' n' t' tk, St (Bw w b h₀) h' ((l + 186, listO (intW xs) ep) :: r) (n' + 186) → R (.ok (.ret (.int (maxOf rest vm) tk))) (sh h' gl dr t' os)) →
  cA w b A₀ (bi "max.loop" [.ref (it + 186), .none, .ref (sp + 186)]) R (sh h gl dr t os)
 | [], i, n, t, se, tm, vm, h, hd, S, next => by
  have hx : (intW xs)[i]? = none := by
   have : xs.length ≤ i := by simpa using hd
   simp [intW]
   exact this
  exact maxZ_t (ta := 0) (va := 0) O hA hx S fun h' t' S' => next h' (n + 2) t' tm S'
 | p :: rest, i, n, t, se, tm, vm, h, hd, S, next => by
  obtain ⟨hx, hd'⟩ := drop_cons_get hd
  by_cases hc : p.1 > vm
  ·refine maxT_t O hA (intW_get hx) (by simpa using hc) S fun h' t' S' => ?_
   refine max_run rest (i + 1) _ _ _ _ _ _ hd' S' fun h' n' t' tk S2 => ?_
   have := next h' n' t' tk S2
   unfold maxOf at this
   rw [if_pos hc] at this
   exact this
  ·refine maxF_t O hA (intW_get hx) (by simpa using hc) S fun h' t' S' => ?_
   refine max_run rest (i + 1) _ _ _ _ _ _ hd' S' fun h' n' t' tk S2 => ?_
   have := next h' n' t' tk S2
   unfold maxOf at this
   rw [if_neg hc] at this
   exact this
theorem min_run {it sp : Nat} : ∀ (rest : List (Int × Nat)) (i n t se tm : Nat) (vm : Int) (h : Heap), xs.drop i = rest →
  St (Bw w b h₀) h ((it + 186, liO (l + 186) i) :: (sp + 186, listO [.int vm tm, .int vm tm] se) :: (l + 186, listO (intW xs) ep) :: r) (n + 186) →
  (∀ h' n' t' tk, St (Bw w b h₀) h' ((l + 186, listO (intW xs) ep) :: r) (n' + 186) → R (.ok (.ret (.int (minOf rest vm) tk))) (sh h' gl dr t' os)) →
  cA w b A₀ (bi "min.loop" [.ref (it + 186), .none, .ref (sp + 186)]) R (sh h gl dr t os)
 | [], i, n, t, se, tm, vm, h, hd, S, next => by
  have hx : (intW xs)[i]? = none := by
   have : xs.length ≤ i := by simpa using hd
   simp [intW]
   exact this
  exact minZ_t (ta := 0) (va := 0) O hA hx S fun h' t' S' => next h' (n + 2) t' tm S'
 | p :: rest, i, n, t, se, tm, vm, h, hd, S, next => by
  obtain ⟨hx, hd'⟩ := drop_cons_get hd
  by_cases hc : p.1 < vm
  ·refine minT_t O hA (intW_get hx) (by simpa using hc) S fun h' t' S' => ?_
   refine min_run rest (i + 1) _ _ _ _ _ _ hd' S' fun h' n' t' tk S2 => ?_
   have := next h' n' t' tk S2
   unfold minOf at this
   rw [if_pos hc] at this
   exact this
  ·refine minF_t O hA (intW_get hx) (by simpa using hc) S fun h' t' S' => ?_
   refine min_run rest (i + 1) _ _ _ _ _ _ hd' S' fun h' n' t' tk S2 => ?_
   have := next h' n' t' tk S2
   unfold minOf at this
   rw [if_neg hc] at this
   exact this
theorem max_code {n t : Nat} {p : Int × Nat} {rest : List (Int × Nat)} {h : Heap} (hx : xs = p :: rest)
  (S : St (Bw w b h₀) h ((l + 186, listO (intW xs) ep) :: r) (n + 186))
  (next : ∀ h' n' t' tk, St (Bw w b h₀) h' ((l + 186, listO (intW xs) ep) :: r) (n' + 186) → R (.ok (.ret (.int (maxOf rest p.1) tk))) (sh h' gl dr t' os)) :
  cA w b A₀ (bi "max" [.ref (l + 186)]) R (sh h gl dr t os) := by
 refine maxS_t (it := 0) (sp := 0) (i := 0) (se := 0) (ta := 0) (tm := 0) (va := 0) (vm := 0) O hA S fun h' t' S' => ?_
 have h0 : xs[0]? = some p := by rw [hx]; rfl
 refine maxA_t (it := n) (sp := n + 1) (i := 0) (n := n + 2) (tm := 0) (vm := 0) O hA (intW_get h0) S' fun h' t' S' => ?_
 exact max_run O hA rest 1 (n + 2) _ _ _ _ _ (by rw [hx]; rfl) S' next
theorem min_code {n t : Nat} {p : Int × Nat} {rest : List (Int × Nat)} {h : Heap} (hx : xs = p :: rest)
  (S : St (Bw w b h₀) h ((l + 186, listO (intW xs) ep) :: r) (n + 186))
  (next : ∀ h' n' t' tk, St (Bw w b h₀) h' ((l + 186, listO (intW xs) ep) :: r) (n' + 186) → R (.ok (.ret (.int (minOf rest p.1) tk))) (sh h' gl dr t' os)) :
  cA w b A₀ (bi "min" [.ref (l + 186)]) R (sh h gl dr t os) := by
 refine minS_t (it := 0) (sp := 0) (i := 0) (se := 0) (ta := 0) (tm := 0) (va := 0) (vm := 0) O hA S fun h' t' S' => ?_
 have h0 : xs[0]? = some p := by rw [hx]; rfl
 refine minA_t (it := n) (sp := n + 1) (i := 0) (n := n + 2) (tm := 0) (vm := 0) O hA (intW_get h0) S' fun h' t' S' => ?_
 exact min_run O hA rest 1 (n + 2) _ _ _ _ _ (by rw [hx]; rfl) S' next
end
section
variable {h₀ : HS} {w : World} {b : Bool} (O : (Bw w b h₀).Ok) {A : Around} {l ep K : Nat} {idx : List Nat} {p : Int × Nat} {rest : List (Int × Nat)} {m : Int}
include O
theorem gap_max (hA : AOk A (140 + 5 * K)) (hsz : 186 ≤ h₀.h.objs.size) (hi : idx.Nodup) (hm : maxOf rest p.1 = m) :
  GapOk (Bw w b h₀) A K idx [(l + 186, listO (intW (p :: rest)) ep)] (bi "max" [.ref (l + 186)]) (fun φ => .ok (.ret (.int m (φ 2)))) (fun _ => []) := by
 subst hm
 refine gap_of hi hsz fun κ h gl dr t os R r n hd' hk S next => ?_
 exact max_code O (AOk.over (d := 140) (hA.le (by lia)) hd') rfl S fun h' n' t' tk S' => next (fun i => match i with
  | 0 => n'
  | 1 => t'
  | _ => tk) h' S'
theorem gap_min (hA : AOk A (140 + 5 * K)) (hsz : 186 ≤ h₀.h.objs.size) (hi : idx.Nodup) (hm : minOf rest p.1 = m) :
  GapOk (Bw w b h₀) A K idx [(l + 186, listO (intW (p :: rest)) ep)] (bi "min" [.ref (l + 186)]) (fun φ => .ok (.ret (.int m (φ 2)))) (fun _ => []) := by
 subst hm
 refine gap_of hi hsz fun κ h gl dr t os R r n hd' hk S next => ?_
 exact min_code O (AOk.over (d := 140) (hA.le (by lia)) hd') rfl S fun h' n' t' tk S' => next (fun i => match i with
  | 0 => n'
  | 1 => t'
  | _ => tk) h' S'
end
noncomputable def exL : Expr → Expr
 | .BinOp l _ _ _ => l
 | e => e
noncomputable def c4E (P : Params) : Expr := exArg 0 (exL (exIf ((fnBody P 175)[0]?)))
noncomputable def plQual : List Nat := [95, 108, 97, 119, 95, 112, 108, 97, 99, 101, 46, 60, 108, 111, 99, 97, 108, 115, 62, 46]
noncomputable def c4 (P : Params) (it acc loc fr : Addr) : Code := lcOf P (c4E P) it acc loc 175 fr [] plQual
noncomputable def biStmt (P : Params) (i : Nat) : Option Stmt := (fnBody P 72)[i]?
section
variable {h₀ : HS} {w : World} {b : Bool} (O : (Bw w b h₀).Ok) {A₀ : Around} (hA : AOk A₀ 140) {R : Result → Shared → Prop} {dr : Drawn} {os : OsState} {h : Heap}
include O hA
theorem c4A_t {it acc loc fr n t j q ep kk jp tp : Nat} {vs : List Value} {r : Led} {gl : List GenState} (hz : vs.length < 1000) (S₀ : St (Bw w b h₀) h ((it + 186, rangeItO j (q + 1)) :: (acc + 186, listO vs ep) :: (loc + 186, dictO 0 []) :: r) (n + 186))
  (next : ∀ h' t', St (Bw w b h₀) h' ((it + 186, rI (Int.ofNat (j + 1)) (Int.ofNat (q + 1) - 1)) :: (acc + 186, listO ((vs ++ [Value.int (Int.ofNat j) t])) (ep + 1)) :: (loc + 186, dictO 1 [en (wf w b) [106] (t + 1) (.int (Int.ofNat j) t)]) :: r) ((n + 186)) → cA w b A₀ (c4 (wf w b).params (it + 186) (acc + 186) (loc + 186) (fr + 186)) R (sh h' gl dr t' os)) :
  cA w b A₀ (c4 (wf w b).params (it + 186) (acc + 186) (loc + 186) (fr + 186)) R (sh h gl dr t os) := by
 exact code_run (f := 32) (ls := [1, 1, 1, 1, 1, 1, 1, 1, 1, 3, 3, 3, 2]) (qs := [(3, .mov [1] [((acc + 186), listO ((vs)) ep)] (bi "list.append" [.ref (acc + 186), .int (Int.ofNat j) t]) (fun n t => .ok (.ret (.none))) 0 [listO (vs ++ [Value.int (Int.ofNat j) t]) (ep + 1)] (fun n => [])), (0, .cut)]) O hA  (aC (mov_append _ _ _ _ _ _ hz) <| aC trivial <| aN) (fine_loop (is := [0, 1, 2]) (d := 3) (Vw.Is.eq (by refine Bool.rec ?_ ?_ b <;> and_intros <;> kernel_rfl)) rfl (next)) S₀
theorem c4B_t {it acc loc fr n t j q ep kk jp tp : Nat} {vs : List Value} {r : Led} {gl : List GenState} (hz : vs.length < 1000) (S₀ : St (Bw w b h₀) h ((it + 186, rangeItO j (q + 1)) :: (acc + 186, listO vs ep) :: (loc + 186, dictO 1 [en (wf w b) [106] kk (.int (Int.ofNat jp) tp)]) :: r) (n + 186))
  (next : ∀ h' t', St (Bw w b h₀) h' ((it + 186, rI (Int.ofNat (j + 1)) (Int.ofNat (q + 1) - 1)) :: (acc + 186, listO ((vs ++ [Value.int (Int.ofNat j) t])) (ep + 1)) :: (loc + 186, dictO 1 [en (wf w b) [106] kk (.int (Int.ofNat j) t)]) :: r) ((n + 186)) → cA w b A₀ (c4 (wf w b).params (it + 186) (acc + 186) (loc + 186) (fr + 186)) R (sh h' gl dr t' os)) :
  cA w b A₀ (c4 (wf w b).params (it + 186) (acc + 186) (loc + 186) (fr + 186)) R (sh h gl dr t os) := by
 exact code_run (f := 32) (ls := [1, 1, 1, 1, 1, 1, 1, 1, 1, 3, 3, 3, 2]) (qs := [(3, .mov [1] [((acc + 186), listO ((vs)) ep)] (bi "list.append" [.ref (acc + 186), .int (Int.ofNat j) t]) (fun n t => .ok (.ret (.none))) 0 [listO (vs ++ [Value.int (Int.ofNat j) t]) (ep + 1)] (fun n => [])), (0, .cut)]) O hA  (aC (mov_append _ _ _ _ _ _ hz) <| aC trivial <| aN) (fine_loop (is := [0, 1, 2]) (d := 3) (Vw.Is.eq (by refine Bool.rec ?_ ?_ b <;> and_intros <;> kernel_rfl)) rfl (next)) S₀
theorem c4Z_t {it acc loc fr n t j q ep kk jp tp : Nat} {vs : List Value} {r : Led} {gl : List GenState} (S₀ : St (Bw w b h₀) h ((it + 186, rangeItO j 0) :: r) (n + 186))
  (next : ∀ h' t', St (Bw w b h₀) h' ((it + 186, rangeItO j 0) :: r) ((n + 188)) → R (.ok PySem.Flow.next) (sh h' gl dr t' os)) :
  cA w b A₀ (c4 (wf w b).params (it + 186) (acc + 186) (loc + 186) (fr + 186)) R (sh h gl dr t os) := by
 exact code_run (f := 20) (ls := [1, 1, 1, 1, 1, 1]) (qs := []) O hA  aN (fine_done (is := [2]) (d := 3) (Vw.Is.eq (by refine Bool.rec ?_ ?_ b <;> and_intros <;> kernel_rfl)) rfl (next)) S₀
end
section
variable {h₀ : HS} {w : World} {b : Bool} (O : (Bw w b h₀).Ok) {A₀ : Around} (hA : AOk A₀ 140) {R : Result → Shared → Prop} {dr : Drawn} {os : OsState} {it acc loc fr : Nat} {r : Led} {gl : List GenState}
include O hA
theorem c4_run : ∀ (q j n t ep kk tp jp : Nat) (vs : List Value) (h : Heap), vs.length + q < 1000 →
  St (Bw w b h₀) h ((it + 186, rangeItO j q) :: (acc + 186, listO vs ep) :: (loc + 186, dictO 1 [en (wf w b) [106] kk (.int (Int.ofNat jp) tp)]) :: r) (n + 186) →
  (∀ h' n' t' l ep' kk' jp' tp', l.length = q → St (Bw w b h₀) h' ((it + 186, rangeItO (j + q) 0) :: (acc + 186, listO (vs ++ intV ((List.range' j q).zip l)) ep') :: (loc + 186, dictO 1 [en (wf w b) [106] kk' (.int (Int.ofNat jp') tp')]) :: r) (n' + 186) → R (.ok .next) (sh h' gl dr t' os)) →
  cA w b A₀ (c4 (wf w b).params (it + 186) (acc + 186) (loc + 186) (fr + 186)) R (sh h gl dr t os)
 | 0, j, n, t, ep, kk, tp, jp, vs, h, hz, S, next => by
  refine c4Z_t (q := 0) (ep := 0) (kk := 0) (jp := 0) (tp := 0) (vs := []) (acc := acc) (loc := loc) (fr := fr) O hA S fun h' t' S' => ?_
  have e : vs ++ intV ((List.range' j 0).zip []) = vs := by simp [intV]
  exact next h' (n + 2) t' [] ep kk jp tp rfl (by rw [e]; exact S')
 | q + 1, j, n, t, ep, kk, tp, jp, vs, h, hz, S, next => by
  refine c4B_t O hA (by lia) S fun h' t' S' => ?_
  rw [rIt] at S'
  refine c4_run q (j + 1) _ _ _ _ _ _ _ _ (by simp; lia) S' fun h' n' t' l ep' kk' jp' tp' hl S2 => next h' n' t' (t :: l) ep' kk' jp' tp' (by simp [hl]) ?_
  have e2 : j + (q + 1) = j + 1 + q := by lia
  rw [e2]
  simpa [intV, List.range'_succ] using S2
theorem c4_code {q n t ep : Nat} {h : Heap} (hq : 0 < q) (hz : q < 1000)
  (S : St (Bw w b h₀) h ((it + 186, rangeItO 0 q) :: (acc + 186, listO [] ep) :: (loc + 186, dictO 0 []) :: r) (n + 186))
  (next : ∀ h' n' t' l ep' kk' jp' tp', l.length = q → St (Bw w b h₀) h' ((it + 186, rangeItO q 0) :: (acc + 186, listO (intV ((List.range' 0 q).zip l)) ep') :: (loc + 186, dictO 1 [en (wf w b) [106] kk' (.int (Int.ofNat jp') tp')]) :: r) (n' + 186) → R (.ok .next) (sh h' gl dr t' os)) :
  cA w b A₀ (c4 (wf w b).params (it + 186) (acc + 186) (loc + 186) (fr + 186)) R (sh h gl dr t os) := by
 cases q with
 | zero => lia
 | succ q =>
  refine c4A_t (kk := 0) (jp := 0) (tp := 0) O hA (by simp) S fun h' t' S' => ?_
  rw [rIt] at S'
  refine c4_run O hA q 1 _ _ _ _ _ _ _ _ (by simp; lia) S' fun h' n' t' l ep' kk' jp' tp' hl S2 => next h' n' t' (t :: l) ep' kk' jp' tp' (by simp [hl]) ?_
  have e2 : q + 1 = 0 + 1 + q := by lia
  rw [Nat.add_comm q 1]
  simpa [intV, List.range'_succ, Nat.add_comm] using S2
end
theorem gap_c4 {h₀ : HS} {w : World} {b : Bool} (O : (Bw w b h₀).Ok) {A : Around} {it acc loc fr K q ep : Nat} {idx : List Nat} (hA : AOk A (140 + 5 * K)) (hsz : 186 ≤ h₀.h.objs.size) (hi : idx.Nodup) (hq : 0 < q) (hz : q < 1000) :
  GapOk (Bw w b h₀) A K idx [(it + 186, rangeItO 0 q), (acc + 186, listO [] ep), (loc + 186, dictO 0 [])] (c4 (wf w b).params (it + 186) (acc + 186) (loc + 186) (fr + 186)) (fun φ => .ok .next)
   (fun φ => [rangeItO q 0, listO (intV ((List.range' 0 q).zip (frL φ q))) (φ 2), dictO 1 [en (wf w b) [106] (φ 3) (.int (Int.ofNat (φ 4)) (φ 5))]]) := by
 refine gap_of hi hsz fun κ h gl dr t os R r n hd' hk S next => ?_
 refine c4_code O (AOk.over (d := 140) (hA.le (by lia)) hd') hq hz S fun h' n' t' l ep' kk' jp' tp' hl S' => ?_
 have e := frL_of l (fun i => match i with
  | 0 => n'
  | 1 => t'
  | 2 => ep'
  | 3 => kk'
  | 4 => jp'
  | _ => tp')
 have := next (fun i => if i < 9 then (match i with
  | 0 => n'
  | 1 => t'
  | 2 => ep'
  | 3 => kk'
  | 4 => jp'
  | _ => tp') else (l[i - 9]?).getD 0) h'
 subst hl
 rw [e] at this
 exact this S'
noncomputable abbrev PL := List (Nat × Nat)
noncomputable def exKw : Expr → Expr
 | .Call _ _ ks _ => match ks with
  | [k] => match k with
   | ⟨_, v, _⟩ => v
  | _ => default
 | e => e
noncomputable def fdLam (e : Expr) (mk : Arguments → Expr → Scope → FuncData) : FuncData := match e with
 | .Lambda a b sc _ => mk a b sc
 | _ => default
noncomputable def keyFD (P : Params) (cl cd ct : Addr) : FuncData := fdLam (exKw (exL (exIf ((fnBody P 175)[0]?)))) fun a b sc =>
 { name := S [60, 108, 97, 109, 98, 100, 97, 62], qualname := S c_lawbda, params := a, body := .expr b, scope := sc, globals := 3, closure := [(S c_kept, cl)], defaults := .none, kwdefaults := .none, doc := .none, pyModule := .str (S [108, 97, 119, 95, 116, 108, 48, 48, 48, 54, 95, 48, 49]) 370, annotations := none, code := .ref cd, closureTuple := .ref ct, builtins := 0 }
noncomputable def keyO (P : Params) (cl cd ct : Addr) : Obj := { cls := .type "function", data := .func (keyFD P cl cd ct) }
noncomputable def biQual : List Nat := [98, 105, 115, 101, 99, 116, 95, 114, 105, 103, 104, 116, 46, 60, 108, 111, 99, 97, 108, 115, 62, 46]
noncomputable def biLoop (P : Params) (fr : Nat) : Code := whOf ((elseOf (biStmt P 2))[0]?) (envAt P 72 (fr + 186) biQual)
section
variable {h₀ : HS} {w : World} {b : Bool} (O : (Bw w b h₀).Ok) {A₀ : Around} (hA : AOk A₀ 200) {R : Result → Shared → Prop} {dr : Drawn} {os : OsState} {h : Heap}
include O hA
theorem biTA_t {n t fr e k1 k2 k3 k4 k5 k6 la ae ky xt lt ht m0 mt lo hi mid ti cl cd ct ke kep p0 q0 p1 q1 mx both ctq : Nat} {cv : Value} {cq : Str} {crs : List Value} {as kl : PL} {ms : List DictEntry} {r : Led} {gl : List GenState} (hsz : 186 ≤ h₀.h.objs.size) (h1 : decide (Int.ofNat lo < Int.ofNat hi) = true) (hdiv : (Int.ofNat (lo + hi)).fdiv 2 = Int.ofNat mid) (hm2 : mid < 900) (ha : (intV as)[mid]? = some (.int (Int.ofNat mid) ti)) (hkl : kl.length < 1000) (hsl : sliceN (some mid) (some (mid + 2)) (intV kl) = [.int (Int.ofNat p0) q0, .int (Int.ofNat p1) q1]) (hmx : maxOf [(Int.ofNat p1, q1)] (Int.ofNat p0) = Int.ofNat mx) (hc : decide (-(Int.ofNat both) < -(Int.ofNat mx)) = true) (S₀ : St (Bw w b h₀) h ((fr + 186, frameO 5 [en (wf w b) [97] k1 (.ref (la + 186)), en (wf w b) [120] k2 (.int (-(Int.ofNat both)) xt), en (wf w b) [108, 111] k3 (.int (Int.ofNat lo) lt), en (wf w b) [104, 105] k4 (.int (Int.ofNat hi) ht), en (wf w b) [107, 101, 121] k5 (.ref (ky + 186))]) :: (la + 186, listO (intV as) ae) :: (ky + 186, keyO (wf w b).params (cl + 186) (cd + 186) (ct + 186)) :: (cd + 186, codeO cv cq ctq crs) :: (cl + 186, cellO (.ref (ke + 186))) :: (ke + 186, listO (intV kl) kep) :: r) (n + 186))
  (next : ∀ ps0 : Nat → SX, ∀ h' t', St (Bw w b h₀) h' ((fr + 186, frameO 6 [en (wf w b) [97] k1 (.ref (la + 186)), en (wf w b) [120] k2 (.int (-Int.ofNat both) xt), en (wf w b) [108, 111] k3 (.int (Int.ofNat lo) lt), en (wf w b) [104, 105] k4 (.int (Int.ofNat mid) (t + 2)), en (wf w b) [107, 101, 121] k5 (.ref (ky + 186)), en (wf w b) [109, 105, 100] (t + 3) (.int (Int.ofNat mid) (t + 2))]) :: (la + 186, listO (intV as) ae) :: (ky + 186, keyO (wf w b).params (cl + 186) (cd + 186) (ct + 186)) :: (cd + 186, codeO cv cq ctq crs) :: (cl + 186, cellO (.ref (ke + 186))) :: (ke + 186, listO (intV kl) kep) :: r) (((SX.fresh (ps0 0)) 0 + 186)) → cA w b A₀ (biLoop (wf w b).params fr) R (sh h' gl dr t' os)) :
  cA w b A₀ (biLoop (wf w b).params fr) R (sh h gl dr t os) := by
 exact code_run (f := 111) (ls := (dg 32 142536552043569878814808579420909754560286860565210525899376834)) (qs := [(1, .ora [] [] (bi "int.__lt__" [.int (Int.ofNat lo) lt, .int (Int.ofNat hi) ht]) (fun t => Value.bool true) 0), (3, .ora [] [] (bi "int.__floordiv__" [.int (Int.ofNat (lo + hi)) t, .int 2 (t + 1)]) (fun t => Value.int (Int.ofNat mid) t) 1), (1, .ora [1] [((la + 186), listO ((intV as)) ae)] (lgi [.ref (la + 186), .int (Int.ofNat mid) (t + 2)]) (fun t => Value.int (Int.ofNat mid) ti) 0), (5, .mov [7, 0] [((ke + 186), listO ((intV kl)) kep), ((n + 187), { cls := .type "slice", dict := none, data := .fields ⟨[.int (Int.ofNat mid) ti, .int (Int.ofNat (mid + 2)) (t + 6), .none]⟩ })] (lgi [.ref (ke + 186), .ref (n + 187)]) (fun n t => .ok (.ret (.ref n))) 0 [] (fun n => [listO [.int (Int.ofNat p0) q0, .int (Int.ofNat p1) q1] 0])), (1, .gap 4 [0] ([(n + 188, listO [.int (Int.ofNat p0) q0, .int (Int.ofNat p1) q1] 0)]) (bi "max" [.ref (n + 188)]) (fun φ => .ok (.ret (.int (Int.ofNat mx) (φ 2)))) (fun φ => []) (fun φ0 => [(1, .ora [] [] (bi "int.__neg__" [.int (Int.ofNat mx) (φ0 2)]) (fun t => Value.int (-Int.ofNat mx) t) 1), (1, .ora [] [] (bi "int.__lt__" [.int (-Int.ofNat both) xt, .int (-Int.ofNat mx) (φ0 1)]) (fun t => Value.bool true) 0), (0, .cut)]))]) O (hA.le (by lia))  (aC (ora_lt _ _ _ _ _ h1) <| aC (ora_div _ _ _ _ _ (by decide) (by decide) hdiv) <| aC (ora_list_item _ _ _ _ _ _ ha (by lia)) <| aC (mov_slice_eq _ _ _ _ _ _ _ (some mid) (some (mid + 2)) _ rfl (.nat _ _) (.nat _ _) (by rw [len_intV]; lia) hsl) <| aC ⟨gap_max (l := n + 2) (p := (Int.ofNat p0, q0)) (rest := [(Int.ofNat p1, q1)]) O (hA.le (by lia)) hsz (by decide) hmx, fun φ => iO (ora_neg _ _ _ rfl) <| iO (ora_lt _ _ _ _ _ hc) <| iK <| iN⟩ <| aN) (FineS.ats (m := 1) fun ps0 => (fine_loop (is := [3, 4, 5, 6, 7, 8]) (d := 9) (Vw.Is.eq (by refine Bool.rec ?_ ?_ b <;> and_intros <;> kernel_rfl)) rfl (next ps0))) S₀
theorem biTB_t {n t fr e k1 k2 k3 k4 k5 k6 la ae ky xt lt ht m0 mt lo hi mid ti cl cd ct ke kep p0 q0 p1 q1 mx both ctq : Nat} {cv : Value} {cq : Str} {crs : List Value} {as kl : PL} {ms : List DictEntry} {r : Led} {gl : List GenState} (hsz : 186 ≤ h₀.h.objs.size) (h1 : decide (Int.ofNat lo < Int.ofNat hi) = true) (hdiv : (Int.ofNat (lo + hi)).fdiv 2 = Int.ofNat mid) (hm2 : mid < 900) (ha : (intV as)[mid]? = some (.int (Int.ofNat mid) ti)) (hkl : kl.length < 1000) (hsl : sliceN (some mid) (some (mid + 2)) (intV kl) = [.int (Int.ofNat p0) q0, .int (Int.ofNat p1) q1]) (hmx : maxOf [(Int.ofNat p1, q1)] (Int.ofNat p0) = Int.ofNat mx) (hc : decide (-(Int.ofNat both) < -(Int.ofNat mx)) = true) (S₀ : St (Bw w b h₀) h ((fr + 186, frameO 6 [en (wf w b) [97] k1 (.ref (la + 186)), en (wf w b) [120] k2 (.int (-(Int.ofNat both)) xt), en (wf w b) [108, 111] k3 (.int (Int.ofNat lo) lt), en (wf w b) [104, 105] k4 (.int (Int.ofNat hi) ht), en (wf w b) [107, 101, 121] k5 (.ref (ky + 186)), en (wf w b) [109, 105, 100] k6 (.int (Int.ofNat m0) mt)]) :: (la + 186, listO (intV as) ae) :: (ky + 186, keyO (wf w b).params (cl + 186) (cd + 186) (ct + 186)) :: (cd + 186, codeO cv cq ctq crs) :: (cl + 186, cellO (.ref (ke + 186))) :: (ke + 186, listO (intV kl) kep) :: r) (n + 186))
  (next : ∀ ps0 : Nat → SX, ∀ h' t', St (Bw w b h₀) h' ((fr + 186, frameO 6 [en (wf w b) [97] k1 (.ref (la + 186)), en (wf w b) [120] k2 (.int (-Int.ofNat both) xt), en (wf w b) [108, 111] k3 (.int (Int.ofNat lo) lt), en (wf w b) [104, 105] k4 (.int (Int.ofNat mid) (t + 2)), en (wf w b) [107, 101, 121] k5 (.ref (ky + 186)), en (wf w b) [109, 105, 100] k6 (.int (Int.ofNat mid) (t + 2))]) :: (la + 186, listO (intV as) ae) :: (ky + 186, keyO (wf w b).params (cl + 186) (cd + 186) (ct + 186)) :: (cd + 186, codeO cv cq ctq crs) :: (cl + 186, cellO (.ref (ke + 186))) :: (ke + 186, listO (intV kl) kep) :: r) (((SX.fresh (ps0 0)) 0 + 186)) → cA w b A₀ (biLoop (wf w b).params fr) R (sh h' gl dr t' os)) :
  cA w b A₀ (biLoop (wf w b).params fr) R (sh h gl dr t os) := by
 exact code_run (f := 111) (ls := (dg 32 142536552043569878814808579420909754560286860565210525899376834)) (qs := [(1, .ora [] [] (bi "int.__lt__" [.int (Int.ofNat lo) lt, .int (Int.ofNat hi) ht]) (fun t => Value.bool true) 0), (3, .ora [] [] (bi "int.__floordiv__" [.int (Int.ofNat (lo + hi)) t, .int 2 (t + 1)]) (fun t => Value.int (Int.ofNat mid) t) 1), (1, .ora [1] [((la + 186), listO ((intV as)) ae)] (lgi [.ref (la + 186), .int (Int.ofNat mid) (t + 2)]) (fun t => Value.int (Int.ofNat mid) ti) 0), (5, .mov [7, 0] [((ke + 186), listO ((intV kl)) kep), ((n + 187), { cls := .type "slice", dict := none, data := .fields ⟨[.int (Int.ofNat mid) ti, .int (Int.ofNat (mid + 2)) (t + 6), .none]⟩ })] (lgi [.ref (ke + 186), .ref (n + 187)]) (fun n t => .ok (.ret (.ref n))) 0 [] (fun n => [listO [.int (Int.ofNat p0) q0, .int (Int.ofNat p1) q1] 0])), (1, .gap 4 [0] ([(n + 188, listO [.int (Int.ofNat p0) q0, .int (Int.ofNat p1) q1] 0)]) (bi "max" [.ref (n + 188)]) (fun φ => .ok (.ret (.int (Int.ofNat mx) (φ 2)))) (fun φ => []) (fun φ0 => [(1, .ora [] [] (bi "int.__neg__" [.int (Int.ofNat mx) (φ0 2)]) (fun t => Value.int (-Int.ofNat mx) t) 1), (1, .ora [] [] (bi "int.__lt__" [.int (-Int.ofNat both) xt, .int (-Int.ofNat mx) (φ0 1)]) (fun t => Value.bool true) 0), (0, .cut)]))]) O (hA.le (by lia))  (aC (ora_lt _ _ _ _ _ h1) <| aC (ora_div _ _ _ _ _ (by decide) (by decide) hdiv) <| aC (ora_list_item _ _ _ _ _ _ ha (by lia)) <| aC (mov_slice_eq _ _ _ _ _ _ _ (some mid) (some (mid + 2)) _ rfl (.nat _ _) (.nat _ _) (by rw [len_intV]; lia) hsl) <| aC ⟨gap_max (l := n + 2) (p := (Int.ofNat p0, q0)) (rest := [(Int.ofNat p1, q1)]) O (hA.le (by lia)) hsz (by decide) hmx, fun φ => iO (ora_neg _ _ _ rfl) <| iO (ora_lt _ _ _ _ _ hc) <| iK <| iN⟩ <| aN) (FineS.ats (m := 1) fun ps0 => (fine_loop (is := [3, 4, 5, 6, 7, 8]) (d := 9) (Vw.Is.eq (by refine Bool.rec ?_ ?_ b <;> and_intros <;> kernel_rfl)) rfl (next ps0))) S₀
theorem biFA_t {n t fr e k1 k2 k3 k4 k5 k6 la ae ky xt lt ht m0 mt lo hi mid ti cl cd ct ke kep p0 q0 p1 q1 mx both ctq : Nat} {cv : Value} {cq : Str} {crs : List Value} {as kl : PL} {ms : List DictEntry} {r : Led} {gl : List GenState} (hsz : 186 ≤ h₀.h.objs.size) (h1 : decide (Int.ofNat lo < Int.ofNat hi) = true) (hdiv : (Int.ofNat (lo + hi)).fdiv 2 = Int.ofNat mid) (hm2 : mid < 900) (ha : (intV as)[mid]? = some (.int (Int.ofNat mid) ti)) (hkl : kl.length < 1000) (hsl : sliceN (some mid) (some (mid + 2)) (intV kl) = [.int (Int.ofNat p0) q0, .int (Int.ofNat p1) q1]) (hmx : maxOf [(Int.ofNat p1, q1)] (Int.ofNat p0) = Int.ofNat mx) (hc : decide (-(Int.ofNat both) < -(Int.ofNat mx)) = false) (S₀ : St (Bw w b h₀) h ((fr + 186, frameO 5 [en (wf w b) [97] k1 (.ref (la + 186)), en (wf w b) [120] k2 (.int (-(Int.ofNat both)) xt), en (wf w b) [108, 111] k3 (.int (Int.ofNat lo) lt), en (wf w b) [104, 105] k4 (.int (Int.ofNat hi) ht), en (wf w b) [107, 101, 121] k5 (.ref (ky + 186))]) :: (la + 186, listO (intV as) ae) :: (ky + 186, keyO (wf w b).params (cl + 186) (cd + 186) (ct + 186)) :: (cd + 186, codeO cv cq ctq crs) :: (cl + 186, cellO (.ref (ke + 186))) :: (ke + 186, listO (intV kl) kep) :: r) (n + 186))
  (next : ∀ ps0 : Nat → SX, ∀ h' t', St (Bw w b h₀) h' ((fr + 186, frameO 6 [en (wf w b) [97] k1 (.ref (la + 186)), en (wf w b) [120] k2 (.int (-Int.ofNat both) xt), en (wf w b) [108, 111] k3 (.int (Int.ofNat (mid + 1)) ((SX.fresh (ps0 0)) 1 + 2)), en (wf w b) [104, 105] k4 (.int (Int.ofNat hi) ht), en (wf w b) [107, 101, 121] k5 (.ref (ky + 186)), en (wf w b) [109, 105, 100] (t + 3) (.int (Int.ofNat mid) (t + 2))]) :: (la + 186, listO (intV as) ae) :: (ky + 186, keyO (wf w b).params (cl + 186) (cd + 186) (ct + 186)) :: (cd + 186, codeO cv cq ctq crs) :: (cl + 186, cellO (.ref (ke + 186))) :: (ke + 186, listO (intV kl) kep) :: r) (((SX.fresh (ps0 0)) 0 + 186)) → cA w b A₀ (biLoop (wf w b).params fr) R (sh h' gl dr t' os)) :
  cA w b A₀ (biLoop (wf w b).params fr) R (sh h gl dr t os) := by
 exact code_run (f := 117) (ls := (dg 32 142536552043569878814808579420909754560286860565210525899376834)) (qs := [(1, .ora [] [] (bi "int.__lt__" [.int (Int.ofNat lo) lt, .int (Int.ofNat hi) ht]) (fun t => Value.bool true) 0), (3, .ora [] [] (bi "int.__floordiv__" [.int (Int.ofNat (lo + hi)) t, .int 2 (t + 1)]) (fun t => Value.int (Int.ofNat mid) t) 1), (1, .ora [1] [((la + 186), listO ((intV as)) ae)] (lgi [.ref (la + 186), .int (Int.ofNat mid) (t + 2)]) (fun t => Value.int (Int.ofNat mid) ti) 0), (5, .mov [7, 0] [((ke + 186), listO ((intV kl)) kep), ((n + 187), { cls := .type "slice", dict := none, data := .fields ⟨[.int (Int.ofNat mid) ti, .int (Int.ofNat (mid + 2)) (t + 6), .none]⟩ })] (lgi [.ref (ke + 186), .ref (n + 187)]) (fun n t => .ok (.ret (.ref n))) 0 [] (fun n => [listO [.int (Int.ofNat p0) q0, .int (Int.ofNat p1) q1] 0])), (1, .gap 4 [0] ([(n + 188, listO [.int (Int.ofNat p0) q0, .int (Int.ofNat p1) q1] 0)]) (bi "max" [.ref (n + 188)]) (fun φ => .ok (.ret (.int (Int.ofNat mx) (φ 2)))) (fun φ => []) (fun φ0 => [(1, .ora [] [] (bi "int.__neg__" [.int (Int.ofNat mx) (φ0 2)]) (fun t => Value.int (-Int.ofNat mx) t) 1), (1, .ora [] [] (bi "int.__lt__" [.int (-Int.ofNat both) xt, .int (-Int.ofNat mx) (φ0 1)]) (fun t => Value.bool false) 0), (2, .cut)]))]) O (hA.le (by lia))  (aC (ora_lt _ _ _ _ _ h1) <| aC (ora_div _ _ _ _ _ (by decide) (by decide) hdiv) <| aC (ora_list_item _ _ _ _ _ _ ha (by lia)) <| aC (mov_slice_eq _ _ _ _ _ _ _ (some mid) (some (mid + 2)) _ rfl (.nat _ _) (.nat _ _) (by rw [len_intV]; lia) hsl) <| aC ⟨gap_max (l := n + 2) (p := (Int.ofNat p0, q0)) (rest := [(Int.ofNat p1, q1)]) O (hA.le (by lia)) hsz (by decide) hmx, fun φ => iO (ora_neg _ _ _ rfl) <| iO (ora_lt _ _ _ _ _ hc) <| iK <| iN⟩ <| aN) (FineS.ats (m := 1) fun ps0 => (fine_loop (is := [3, 4, 5, 6, 7, 8]) (d := 9) (Vw.Is.eq (by refine Bool.rec ?_ ?_ b <;> and_intros <;> kernel_rfl)) rfl (next ps0))) S₀
theorem biFB_t {n t fr e k1 k2 k3 k4 k5 k6 la ae ky xt lt ht m0 mt lo hi mid ti cl cd ct ke kep p0 q0 p1 q1 mx both ctq : Nat} {cv : Value} {cq : Str} {crs : List Value} {as kl : PL} {ms : List DictEntry} {r : Led} {gl : List GenState} (hsz : 186 ≤ h₀.h.objs.size) (h1 : decide (Int.ofNat lo < Int.ofNat hi) = true) (hdiv : (Int.ofNat (lo + hi)).fdiv 2 = Int.ofNat mid) (hm2 : mid < 900) (ha : (intV as)[mid]? = some (.int (Int.ofNat mid) ti)) (hkl : kl.length < 1000) (hsl : sliceN (some mid) (some (mid + 2)) (intV kl) = [.int (Int.ofNat p0) q0, .int (Int.ofNat p1) q1]) (hmx : maxOf [(Int.ofNat p1, q1)] (Int.ofNat p0) = Int.ofNat mx) (hc : decide (-(Int.ofNat both) < -(Int.ofNat mx)) = false) (S₀ : St (Bw w b h₀) h ((fr + 186, frameO 6 [en (wf w b) [97] k1 (.ref (la + 186)), en (wf w b) [120] k2 (.int (-(Int.ofNat both)) xt), en (wf w b) [108, 111] k3 (.int (Int.ofNat lo) lt), en (wf w b) [104, 105] k4 (.int (Int.ofNat hi) ht), en (wf w b) [107, 101, 121] k5 (.ref (ky + 186)), en (wf w b) [109, 105, 100] k6 (.int (Int.ofNat m0) mt)]) :: (la + 186, listO (intV as) ae) :: (ky + 186, keyO (wf w b).params (cl + 186) (cd + 186) (ct + 186)) :: (cd + 186, codeO cv cq ctq crs) :: (cl + 186, cellO (.ref (ke + 186))) :: (ke + 186, listO (intV kl) kep) :: r) (n + 186))
  (next : ∀ ps0 : Nat → SX, ∀ h' t', St (Bw w b h₀) h' ((fr + 186, frameO 6 [en (wf w b) [97] k1 (.ref (la + 186)), en (wf w b) [120] k2 (.int (-Int.ofNat both) xt), en (wf w b) [108, 111] k3 (.int (Int.ofNat (mid + 1)) ((SX.fresh (ps0 0)) 1 + 2)), en (wf w b) [104, 105] k4 (.int (Int.ofNat hi) ht), en (wf w b) [107, 101, 121] k5 (.ref (ky + 186)), en (wf w b) [109, 105, 100] k6 (.int (Int.ofNat mid) (t + 2))]) :: (la + 186, listO (intV as) ae) :: (ky + 186, keyO (wf w b).params (cl + 186) (cd + 186) (ct + 186)) :: (cd + 186, codeO cv cq ctq crs) :: (cl + 186, cellO (.ref (ke + 186))) :: (ke + 186, listO (intV kl) kep) :: r) (((SX.fresh (ps0 0)) 0 + 186)) → cA w b A₀ (biLoop (wf w b).params fr) R (sh h' gl dr t' os)) :
  cA w b A₀ (biLoop (wf w b).params fr) R (sh h gl dr t os) := by
 exact code_run (f := 117) (ls := (dg 32 142536552043569878814808579420909754560286860565210525899376834)) (qs := [(1, .ora [] [] (bi "int.__lt__" [.int (Int.ofNat lo) lt, .int (Int.ofNat hi) ht]) (fun t => Value.bool true) 0), (3, .ora [] [] (bi "int.__floordiv__" [.int (Int.ofNat (lo + hi)) t, .int 2 (t + 1)]) (fun t => Value.int (Int.ofNat mid) t) 1), (1, .ora [1] [((la + 186), listO ((intV as)) ae)] (lgi [.ref (la + 186), .int (Int.ofNat mid) (t + 2)]) (fun t => Value.int (Int.ofNat mid) ti) 0), (5, .mov [7, 0] [((ke + 186), listO ((intV kl)) kep), ((n + 187), { cls := .type "slice", dict := none, data := .fields ⟨[.int (Int.ofNat mid) ti, .int (Int.ofNat (mid + 2)) (t + 6), .none]⟩ })] (lgi [.ref (ke + 186), .ref (n + 187)]) (fun n t => .ok (.ret (.ref n))) 0 [] (fun n => [listO [.int (Int.ofNat p0) q0, .int (Int.ofNat p1) q1] 0])), (1, .gap 4 [0] ([(n + 188, listO [.int (Int.ofNat p0) q0, .int (Int.ofNat p1) q1] 0)]) (bi "max" [.ref (n + 188)]) (fun φ => .ok (.ret (.int (Int.ofNat mx) (φ 2)))) (fun φ => []) (fun φ0 => [(1, .ora [] [] (bi "int.__neg__" [.int (Int.ofNat mx) (φ0 2)]) (fun t => Value.int (-Int.ofNat mx) t) 1), (1, .ora [] [] (bi "int.__lt__" [.int (-Int.ofNat both) xt, .int (-Int.ofNat mx) (φ0 1)]) (fun t => Value.bool false) 0), (2, .cut)]))]) O (hA.le (by lia))  (aC (ora_lt _ _ _ _ _ h1) <| aC (ora_div _ _ _ _ _ (by decide) (by decide) hdiv) <| aC (ora_list_item _ _ _ _ _ _ ha (by lia)) <| aC (mov_slice_eq _ _ _ _ _ _ _ (some mid) (some (mid + 2)) _ rfl (.nat _ _) (.nat _ _) (by rw [len_intV]; lia) hsl) <| aC ⟨gap_max (l := n + 2) (p := (Int.ofNat p0, q0)) (rest := [(Int.ofNat p1, q1)]) O (hA.le (by lia)) hsz (by decide) hmx, fun φ => iO (ora_neg _ _ _ rfl) <| iO (ora_lt _ _ _ _ _ hc) <| iK <| iN⟩ <| aN) (FineS.ats (m := 1) fun ps0 => (fine_loop (is := [3, 4, 5, 6, 7, 8]) (d := 9) (Vw.Is.eq (by refine Bool.rec ?_ ?_ b <;> and_intros <;> kernel_rfl)) rfl (next ps0))) S₀
end
section
variable {h₀ : HS} {w : World} {b : Bool} (O : (Bw w b h₀).Ok) {A₀ : Around} (hA : AOk A₀ 140) {R : Result → Shared → Prop} {dr : Drawn} {os : OsState} {h : Heap}
include O hA
theorem biZ_t {n t fr e k1 k2 k3 k4 k5 k6 la ae ky xt lt ht m0 mt lo hi mid ti cl cd ct ke kep p0 q0 p1 q1 mx both ctq : Nat} {cv : Value} {cq : Str} {crs : List Value} {as kl : PL} {ms : List DictEntry} {r : Led} {gl : List GenState} (h1 : decide (Int.ofNat lo < Int.ofNat hi) = false) (S₀ : St (Bw w b h₀) h ((fr + 186, frameO e (en (wf w b) [97] k1 (.ref (la + 186)) :: en (wf w b) [120] k2 (.int (-(Int.ofNat both)) xt) :: en (wf w b) [108, 111] k3 (.int (Int.ofNat lo) lt) :: en (wf w b) [104, 105] k4 (.int (Int.ofNat hi) ht) :: en (wf w b) [107, 101, 121] k5 (.ref (ky + 186)) :: ms)) :: r) (n + 186))
  (next : ∀ h' t', St (Bw w b h₀) h' ((fr + 186, frameO e (en (wf w b) [97] k1 (.ref (la + 186)) :: en (wf w b) [120] k2 (.int (-(Int.ofNat both)) xt) :: en (wf w b) [108, 111] k3 (.int (Int.ofNat lo) lt) :: en (wf w b) [104, 105] k4 (.int (Int.ofNat hi) ht) :: en (wf w b) [107, 101, 121] k5 (.ref (ky + 186)) :: ms)) :: r) ((n + 186)) → R (.ok PySem.Flow.next) (sh h' gl dr t' os)) :
  cA w b A₀ (biLoop (wf w b).params fr) R (sh h gl dr t os) := by
 exact code_run (f := 14) (ls := [1, 1]) (qs := [(1, .ora [] [] (bi "int.__lt__" [.int (Int.ofNat lo) lt, .int (Int.ofNat hi) ht]) (fun t => Value.bool false) 0)]) O hA  (aC (ora_lt _ _ _ _ _ h1) <| aN) (fine_done (is := [0]) (d := 1) (Vw.Is.eq (by refine Bool.rec ?_ ?_ b <;> and_intros <;> kernel_rfl)) rfl (next)) S₀
end
noncomputable def bisF (f : Nat → Bool) : Nat → Nat → Nat → Nat
 | 0, lo, _ => lo
 | k + 1, lo, hi => if lo < hi then (if f ((lo + hi) / 2) then bisF f k lo ((lo + hi) / 2) else bisF f k ((lo + hi) / 2 + 1) hi) else lo
noncomputable def mxAt (l : List Nat) (i : Nat) : Nat := max (l.getD i 0) (l.getD (i + 1) 0)
noncomputable def biFr (w : World) (la k1 k2 k3 k4 k5 xt lt ht ky both lo hi e : Nat) (ms : List DictEntry) : Obj := frameO e (en w [97] k1 (.ref (la + 186)) :: en w [120] k2 (.int (-(Int.ofNat both)) xt) :: en w [108, 111] k3 (.int (Int.ofNat lo) lt) :: en w [104, 105] k4 (.int (Int.ofNat hi) ht) :: en w [107, 101, 121] k5 (.ref (ky + 186)) :: ms)
noncomputable def msF (w : World) (z k m t : Nat) : List DictEntry := match z with
 | 0 => []
 | _ + 1 => [en w [109, 105, 100] k (.int (Int.ofNat m) t)]
theorem sl2 {l : PL} {i : Nat} {p q : Nat × Nat} (hp : l[i]? = some p) (hq : l[i + 1]? = some q) : sliceN (some i) (some (i + 2)) (intV l) = [.int (Int.ofNat p.1) p.2, .int (Int.ofNat q.1) q.2] := by
 unfold sliceN takeN
 simp only [Option.getD_some]
 apply List.ext_getElem?
 intro j
 rw [List.getElem?_drop, List.getElem?_take]
 rcases j with _ | _ | j
 ·simp [intV, hp]
 ·simp [intV, hq]
 ·simp
  lia
section
variable {h₀ : HS} {w : World} {b : Bool} (O : (Bw w b h₀).Ok) {A₀ : Around} (hA : AOk A₀ 200) (hsz : 186 ≤ h₀.h.objs.size) {R : Result → Shared → Prop} {dr : Drawn} {os : OsState}
 {fr la ky ae k1 k2 k3 k4 k5 xt cl cd ct ke kep both ctq nl : Nat} {cv : Value} {cq : Str} {crs : List Value} {tks : List Nat} {kl : PL} {r : Led} {gl : List GenState}
noncomputable def biRest (w : World) (la ky ae cl cd ct ke kep ctq nl : Nat) (cv : Value) (cq : Str) (crs : List Value) (tks : List Nat) (kl : PL) : Led :=
 [(la + 186, listO (intV ((List.range' 0 nl).zip tks)) ae), (ky + 186, keyO w.params (cl + 186) (cd + 186) (ct + 186)), (cd + 186, codeO cv cq ctq crs), (cl + 186, cellO (.ref (ke + 186))), (ke + 186, listO (intV kl) kep)]
include O hA hsz
theorem bi_run (htk : tks.length = nl) (hnl : nl = kl.length) (hnl2 : nl < 900) : ∀ (k lo hi n t e z k6 m0 mt lt ht : Nat) (h : Heap), hi - lo ≤ k → hi < nl → (z = 0 → e = 5) → (z ≠ 0 → e = 6) →
  St (Bw w b h₀) h ((fr + 186, biFr (wf w b) la k1 k2 k3 k4 k5 xt lt ht ky both lo hi e (msF (wf w b) z k6 m0 mt)) :: (biRest (wf w b) la ky ae cl cd ct ke kep ctq nl cv cq crs tks kl ++ r)) (n + 186) →
  (∀ h' n' t' lt' ht' hi' e' z' k6' m' mt', St (Bw w b h₀) h' ((fr + 186, biFr (wf w b) la k1 k2 k3 k4 k5 xt lt' ht' ky both (bisF (fun i => decide (mxAt (kl.map (·.1)) i < both)) k lo hi) hi' e' (msF (wf w b) z' k6' m' mt')) :: (biRest (wf w b) la ky ae cl cd ct ke kep ctq nl cv cq crs tks kl ++ r)) (n' + 186) → R (.ok .next) (sh h' gl dr t' os)) →
  cA w b A₀ (biLoop (wf w b).params fr) R (sh h gl dr t os) := by
 intro k
 induction k using Nat.strongRecOn with
 | _ k ih =>
  intro lo hi n t e z k6 m0 mt lt ht h hk hh hz0 hz1 S next
  by_cases h1 : lo < hi
  ·obtain ⟨k, rfl⟩ : ∃ j, k = j + 1 := ⟨k - 1, by lia⟩
   obtain ⟨mid, hmid⟩ : ∃ m, m = (lo + hi) / 2 := ⟨_, rfl⟩
   have hml : lo ≤ mid := by lia
   have hmh : mid < hi := by lia
   have hdiv : (Int.ofNat (lo + hi)).fdiv 2 = Int.ofNat mid := by
    rw [hmid, Int.fdiv_eq_ediv_of_nonneg _ (by decide)]
    simp
   obtain ⟨p, hp⟩ : ∃ p, kl[mid]? = some p := ⟨kl[mid], by simp⟩
   obtain ⟨q, hq⟩ : ∃ q, kl[mid + 1]? = some q := ⟨kl[mid + 1], by simp⟩
   have hmx : maxOf [((Int.ofNat q.1), q.2)] (Int.ofNat p.1) = Int.ofNat (mxAt (kl.map (·.1)) mid) := by
    have e1 : (kl.map (·.1)).getD mid 0 = p.1 := by simp [List.getD_eq_getElem?_getD, hp]
    have e2 : (kl.map (·.1)).getD (mid + 1) 0 = q.1 := by simp [List.getD_eq_getElem?_getD, hq]
    unfold mxAt
    rw [e1, e2]
    show (if Int.ofNat q.1 > Int.ofNat p.1 then Int.ofNat q.1 else Int.ofNat p.1) = _
    split <;> rename_i hh <;> simp at hh ⊢ <;> lia
   obtain ⟨ti, hti⟩ : ∃ ti, (intV ((List.range' 0 nl).zip tks))[mid]? = some (.int (Int.ofNat mid) ti) := by
    refine ⟨tks[mid]'(by lia), ?_⟩
    have : ((List.range' 0 nl).zip tks)[mid]? = some (mid, tks[mid]'(by lia)) := by
     rw [List.getElem?_zip_eq_some]
     constructor
     ·rw [List.getElem?_range' (by lia)]
      simp
     ·simp
    exact intV_get this
   have d1 : decide (Int.ofNat lo < Int.ofNat hi) = true := by simpa using h1
   unfold bisF at next
   rw [if_pos h1, ← hmid] at next
   by_cases hc : mxAt (kl.map (·.1)) mid < both
   ·have hc' : decide (-(Int.ofNat both) < -(Int.ofNat (mxAt (kl.map (·.1)) mid))) = true := by simp; lia
    rw [if_pos (by simpa using hc)] at next
    cases z with
    | zero =>
     have := hz0 rfl
     subst this
     refine biTA_t (e := 0) (k6 := 0) (m0 := 0) (mt := 0) (mid := mid) (p0 := p.1) (q0 := p.2) (p1 := q.1) (q1 := q.2) (mx := mxAt (kl.map (·.1)) mid) (ti := ti) (as := (List.range' 0 nl).zip tks) (ms := []) O hA hsz d1 hdiv (by lia) hti (by lia) (sl2 hp hq) hmx hc' S fun ps0 h' t' S' => ?_
     exact ih k (Nat.lt_succ_self k) lo mid _ _ 6 1 _ _ _ _ _ _ (by lia) (by lia) (by simp) (by simp) S' next
    | succ z =>
     have := hz1 (by simp)
     subst this
     refine biTB_t (e := 0) (mid := mid) (p0 := p.1) (q0 := p.2) (p1 := q.1) (q1 := q.2) (mx := mxAt (kl.map (·.1)) mid) (ti := ti) (as := (List.range' 0 nl).zip tks) (ms := []) O hA hsz d1 hdiv (by lia) hti (by lia) (sl2 hp hq) hmx hc' S fun ps0 h' t' S' => ?_
     exact ih k (Nat.lt_succ_self k) lo mid _ _ 6 1 _ _ _ _ _ _ (by lia) (by lia) (by simp) (by simp) S' next
   ·have hc' : decide (-(Int.ofNat both) < -(Int.ofNat (mxAt (kl.map (·.1)) mid))) = false := by simp; lia
    rw [if_neg (by simpa using hc)] at next
    cases z with
    | zero =>
     have := hz0 rfl
     subst this
     refine biFA_t (e := 0) (k6 := 0) (m0 := 0) (mt := 0) (mid := mid) (p0 := p.1) (q0 := p.2) (p1 := q.1) (q1 := q.2) (mx := mxAt (kl.map (·.1)) mid) (ti := ti) (as := (List.range' 0 nl).zip tks) (ms := []) O hA hsz d1 hdiv (by lia) hti (by lia) (sl2 hp hq) hmx hc' S fun ps0 h' t' S' => ?_
     exact ih k (Nat.lt_succ_self k) (mid + 1) hi _ _ 6 1 _ _ _ _ _ _ (by lia) (by lia) (by simp) (by simp) S' next
    | succ z =>
     have := hz1 (by simp)
     subst this
     refine biFB_t (e := 0) (mid := mid) (p0 := p.1) (q0 := p.2) (p1 := q.1) (q1 := q.2) (mx := mxAt (kl.map (·.1)) mid) (ti := ti) (as := (List.range' 0 nl).zip tks) (ms := []) O hA hsz d1 hdiv (by lia) hti (by lia) (sl2 hp hq) hmx hc' S fun ps0 h' t' S' => ?_
     exact ih k (Nat.lt_succ_self k) (mid + 1) hi _ _ 6 1 _ _ _ _ _ _ (by lia) (by lia) (by simp) (by simp) S' next
  ·have d1 : decide (Int.ofNat lo < Int.ofNat hi) = false := by simpa using h1
   have e0 : bisF (fun i => decide (mxAt (kl.map (·.1)) i < both)) k lo hi = lo := by
    cases k with
    | zero => rfl
    | succ k =>
     unfold bisF
     rw [if_neg h1]
   rw [e0] at next
   refine biZ_t (k6 := 0) (ae := 0) (m0 := 0) (mt := 0) (mid := 0) (ti := 0) (cl := 0) (cd := 0) (ct := 0) (ke := 0) (kep := 0) (p0 := 0) (q0 := 0) (p1 := 0) (q1 := 0) (mx := 0) (ctq := 0) (cv := .none) (cq := Mine.S []) (crs := []) (as := []) (kl := []) O (hA.le (by lia)) d1 S fun h' t' S' => ?_
   exact next h' n t' lt ht hi e z k6 m0 mt S'
end
theorem gap_bi {h₀ : HS} {w : World} {b : Bool} (O : (Bw w b h₀).Ok) {A : Around} {fr la ky ae k1 k2 k3 k4 k5 xt lt ht cl cd ct ke kep both ctq nl lo hi res : Nat} {cv : Value} {cq : Str} {crs : List Value} {tks : List Nat} {kl : PL} {idx : List Nat} (hA : AOk A 240) (hsz : 186 ≤ h₀.h.objs.size) (hi' : idx.Nodup)
  (htk : tks.length = nl) (hnl : nl = kl.length) (hnl2 : nl < 900) (hh : hi < nl) (hres : bisF (fun i => decide (mxAt (kl.map (·.1)) i < both)) (hi - lo) lo hi = res) :
  GapOk (Bw w b h₀) A 4 idx ((fr + 186, biFr (wf w b) la k1 k2 k3 k4 k5 xt lt ht ky both lo hi 5 []) :: biRest (wf w b) la ky ae cl cd ct ke kep ctq nl cv cq crs tks kl) (biLoop (wf w b).params fr) (fun φ => .ok .next)
   (fun φ => [biFr (wf w b) la k1 k2 k3 k4 k5 xt (φ 2) (φ 3) ky both res (φ 4) (φ 5) (msF (wf w b) (φ 6) (φ 7) (φ 8) (φ 9))]) := by
 subst hres
 refine gap_of hi' hsz fun κ h gl dr t os R r n hd' hk S next => ?_
 refine bi_run O (AOk.over (d := 200) (hA.le (by lia)) hd') hsz htk hnl hnl2 (hi - lo) lo hi n t 5 0 0 0 0 lt ht h (by lia) hh (fun _ => rfl) (fun h => absurd rfl h) S fun h' n' t' lt' ht' hi' e' z' k6' m' mt' S' => ?_
 exact next (fun i => match i with
  | 0 => n'
  | 1 => t'
  | 2 => lt'
  | 3 => ht'
  | 4 => hi'
  | 5 => e'
  | 6 => z'
  | 7 => k6'
  | 8 => m'
  | _ => mt') h' S'
noncomputable def keyCd (n t : Nat) : List Value := [.str (S [47, 99, 108, 97, 105, 109, 47, 99, 117, 116, 46, 112, 121]) (t + 3), .int 125 0, .int 1 0, .int 0 0, .int 0 0, .int 19 0, .ref (n + 187), .bool true, .int 181 0, .ref (n + 188), .none, .ref (n + 189), .ref (n + 190), .ref (n + 191), .int (Int.ofNat (t + 6)) 0, .int 125 0, .str (S [47, 99, 108, 97, 105, 109, 47, 99, 117, 116, 46, 112, 121]) (t + 7)]
noncomputable def kV0 (t : Nat) : Value := .str (S [60, 108, 97, 109, 98, 100, 97, 62]) (t + 1)
noncomputable def kQ : Str := S c_lawbda
structure ZK where
 (c3 wtq : Nat)
 w0 : Value
 wq : Str
 wrs : List Value
theorem mov_list_add_eq {V : RV} (a b : Addr) (vs vs2 rs : List Value) (ep ep2 : Nat) {idx : List Nat} (hz : vs.length + vs2.length < 1000) (h : vs ++ vs2 = rs) :
  MovOk V idx [(a, listO vs ep), (b, listO vs2 ep2)] (bi "list.__add__" [.ref a, .ref b]) (fun n _ => .ok (.ret (.ref n))) 0 [] fun _ => [listO rs 0] := by
 subst h
 exact mov_list_add a b vs vs2 ep ep2 hz
theorem ora_sub (a b c : Int) (t u : Tok) (h : a - b = c) {prog : Program} {w : World} : OraOk prog w [] (bi "int.__sub__" [.int a t, .int b u]) (fun t => .int c t) 1 := by
 subst h; exact ora_int (by decide +kernel) F.entry_int_sub (AutoIntG9.int___sub___int_int_0 a t b u)
noncomputable def zW (js toks : List Nat) : List (Int × Nat) := (js.zip toks).map fun p => (Int.ofNat p.1, p.2)
theorem zW_intV (js toks : List Nat) : intV (js.zip toks) = intW (zW js toks) := by simp [intV, intW, zW]
theorem intV_append (a b : PL) : intV a ++ intV b = intV (a ++ b) := by simp [intV]
noncomputable def mxJ : List Nat → Int → Int
 | [], m => m
 | j :: js, m => mxJ js (if Int.ofNat j > m then Int.ofNat j else m)
theorem maxOf_zW : ∀ (js toks : List Nat) (m : Int), toks.length = js.length → maxOf (zW js toks) m = mxJ js m
 | [], _, m, _ => by simp [zW, maxOf, mxJ]
 | j :: js, [], m, h => by simp at h
 | j :: js, t :: ts, m, h => by
  show maxOf (zW js ts) (if Int.ofNat j > m then Int.ofNat j else m) = mxJ js (if Int.ofNat j > m then Int.ofNat j else m)
  exact maxOf_zW js ts _ (by simpa using h)
noncomputable def tnA_q (w : World) (b lay : Bool) (z1 : Z1) (z2 : Z2) (z3 : Z3) (y : ZT) (zk : ZK) (j jl K place nl : Nat) (wk tk0 wk1 tk1 : Nat) (js : List Nat) (mx : Int) (kz : Bool) : List (Nat × Act) := [(2, .gap 3 [0, 2, 5] ([(z1.n + 186, lawB (wf w b) lay z1 z2 z3 13 (ck lay z2.kk (y.t + 3)) (.int 0 (y.t + 2)) (es1 (wf w b) y ++ [en (wf w b) c_kept y.k6 (.ref (y.ke + 186)), en (wf w b) c_turn (y.t + 1) (.int (Int.ofNat j) y.t)]) []), (z1.n + 188, cellO (.ref (y.we + 186))), (y.we + 186, listO (intV y.wl) y.wep)]) (whOf (tnStmt (wf w b).params 1) (lawEnv (wf w b).params z1.n)) (fun φ => .ok .next) (fun φ => [lawB (wf w b) lay z1 z2 z3 13 (ck lay z2.kk (y.t + 3)) (.int (Int.ofNat K) (φ 2)) (es1 (wf w b) y ++ [en (wf w b) c_kept y.k6 (.ref (y.ke + 186)), en (wf w b) c_turn (y.t + 1) (.int (Int.ofNat j) y.t)]) []]) (fun φ0 => [(1, .ora [5] [((y.we + 186), listO ((intV y.wl)) y.wep)] (lgi [.ref (y.we + 186), .int (Int.ofNat K) (φ0 2)]) (fun t => Value.int (Int.ofNat wk) tk0) 0), (3, .ora [5] [((y.we + 186), listO ((intV y.wl)) y.wep)] (lgi [.ref (y.we + 186), .int (Int.ofNat (K + 1)) (φ0 1 + 1)]) (fun t => Value.int (Int.ofNat wk1) tk1) 0), (3, .ora [6] [((y.ke + 186), listO ((intV y.kl)) y.kep)] (bi "len" [.ref (y.ke + 186)]) (fun t => Value.int (Int.ofNat y.ml) (t + 1)) 2), (1, .mov [6, 5] [((y.ke + 186), listO ((intV y.kl)) y.kep), ((y.we + 186), listO ((intV y.wl)) y.wep)] (bi "list.__add__" [.ref (y.ke + 186), .ref (y.we + 186)]) (fun n t => .ok (.ret (.ref n))) 0 [] (fun n => [listO (intV (y.kl ++ y.wl)) 0])), (5, .ora [2] [((φ0 0 + 186), listO ((intV (y.kl ++ y.wl))) 0)] (bi "len" [.ref (φ0 0 + 186)]) (fun t => Value.int (Int.ofNat nl) (t + 1)) 2), (7, .mov [0] [((φ0 0 + 189), { cls := .type "range", dict := none, data := .fields ⟨[.int 0 (φ0 1 + 13), .int (Int.ofNat nl) (φ0 1 + 12), .int 1 (φ0 1 + 14)]⟩ })] (bi "range.__iter__" [.ref (φ0 0 + 189)]) (fun n t => .ok (.ret (.ref n))) 0 [] (fun n => [rangeItO 0 nl])), (1, .gap 4 [2, 1, 0] ([((φ0 0) + 4 + 186, rangeItO 0 nl), ((φ0 0) + 5 + 186, listO [] 0), ((φ0 0) + 6 + 186, dictO 0 [])]) (c4 (wf w b).params ((φ0 0) + 4 + 186) ((φ0 0) + 5 + 186) ((φ0 0) + 6 + 186) ((φ0 0) + 1 + 186)) (fun φ => .ok .next) (fun φ => [rangeItO nl 0, listO (intV ((List.range' 0 nl).zip (frL φ nl))) (φ 2), dictO 1 [en (wf w b) [106] (φ 3) (.int (Int.ofNat (φ 4)) (φ 5))]]) (fun φ1 => [(1, .ora [] [] (bi "int.__neg__" [.int (Int.ofNat (wk + wk1)) (φ0 1 + 2)]) (fun t => Value.int (-Int.ofNat (wk + wk1)) t) 1), (4, .gap 4 [0, 10, 1, 2, 13, 15] ((((φ1 0) + 8) + 186, biFr (wf w b) ((φ0 0) + 5) ((φ1 1) + 8) ((φ1 1) + 9) ((φ1 1) + 10) ((φ1 1) + 11) ((φ1 1) + 12) ((φ1 1)) ((φ0 1) + 4) ((φ0 1) + 7) ((φ1 0) + 7) (wk + wk1) y.ml (y.ml + K) 5 []) :: biRest (wf w b) ((φ0 0) + 5) ((φ1 0) + 7) (φ1 2) ((φ0 0) + 2) ((φ1 0) + 6) ((φ1 0)) ((φ0 0)) 0 ((φ1 1) + 2) nl (kV0 (φ1 1)) kQ (keyCd (φ1 0) (φ1 1)) (frL φ1 nl) (y.kl ++ y.wl)) (biLoop (wf w b).params ((φ1 0) + 8)) (fun φ => .ok .next) (fun φ => [biFr (wf w b) ((φ0 0) + 5) ((φ1 1) + 8) ((φ1 1) + 9) ((φ1 1) + 10) ((φ1 1) + 11) ((φ1 1) + 12) ((φ1 1)) (φ 2) (φ 3) ((φ1 0) + 7) (wk + wk1) (y.ml + place) (φ 4) (φ 5) (msF (wf w b) (φ 6) (φ 7) (φ 8) (φ 9))]) (fun φ2 => [(1, .ora [] [] (bi "int.__sub__" [.int (Int.ofNat (y.ml + place)) (φ2 2), .int (Int.ofNat y.ml) (φ0 1 + 4)]) (fun t => Value.int (Int.ofNat place) t) 1), (9, .mov [0] [((φ2 0 + 187), { cls := .type "range", dict := none, data := .fields ⟨[.int 0 (φ2 1 + 5), .int (Int.ofNat K) (φ0 2), .int 1 (φ2 1 + 6)]⟩ })] (bi "range.__iter__" [.ref (φ2 0 + 187)]) (fun n t => .ok (.ret (.ref n))) 0 [] (fun n => [rangeItO 0 K])), (1, .gap 3 [2, 1, 0, 23, 26, 25] ([((φ2 0) + 2 + 186, rangeItO 0 K), ((φ2 0) + 3 + 186, listO [] 0), ((φ2 0) + 4 + 186, dictO 0 []), (z1.n + 2 + 186, cellO (.ref (y.we + 186))), (y.we + 186, listO (intV y.wl) y.wep), (z1.n + 4 + 186, cellO (.int (Int.ofNat (wk + wk1)) (φ0 1 + 2)))]) (c2 (wf w b).params ((φ2 0) + 2 + 186) ((φ2 0) + 3 + 186) ((φ2 0) + 4 + 186) (z1.n + 186) (z1.n + 2 + 186) (z1.n + 4 + 186)) (fun φ => .ok .next) (fun φ => [rangeItO K 0, listO (intV (js.zip (frL φ js.length))) (φ 2), c2Loc (wf w b) kz (φ 3) (φ 4) (φ 5)]) (fun φ3 => [(1, .mov [4, 1] [((φ2 0 + 186), listO [.int (-1) (φ2 1 + 4)] 0), ((φ2 0 + 189), listO ((intV (js.zip (frL φ3 js.length)))) (φ3 2))] (bi "list.__add__" [.ref (φ2 0 + 186), .ref (φ2 0 + 189)]) (fun n t => .ok (.ret (.ref n))) 0 [] (fun n => [listO (intW ((-1, (φ2 1 + 4)) :: zW js (frL φ3 js.length))) 0])), (1, .gap 3 [0] ([((φ3 0) + 186, listO (intW ((-1, (φ2 1 + 4)) :: zW js (frL φ3 js.length))) 0)]) (bi "max" [.ref (φ3 0 + 186)]) (fun φ => .ok (.ret (.int mx (φ 2)))) (fun φ => []) (fun φ4 => [(1, .ora [] [] (bi "int.__add__" [.int 1 (φ2 1 + 2), .int (mx) (φ4 2)]) (fun t => Value.int (Int.ofNat place) t) 1), (1, .ora [] [] (bi "int.__ne__" [.int (Int.ofNat place) (φ2 1), .int (Int.ofNat place) (φ4 1)]) (fun t => Value.bool false) 0), (1, .mov [28, 0] [((y.we + 186), listO ((intV y.wl)) y.wep), ((φ4 0 + 186), { cls := .type "slice", dict := none, data := .fields ⟨[.none, .int (Int.ofNat place) (φ2 1), .none]⟩ })] (lgi [.ref (y.we + 186), .ref (φ4 0 + 186)]) (fun n t => .ok (.ret (.ref n))) 0 [] (fun n => [listO (sliceN none (some place) (intV y.wl)) 0])), (1, .mov [1, 0] [((φ4 0 + 187), listO ((sliceN none (some place) (intV y.wl))) 0), ((φ4 0 + 188), listO [.int (Int.ofNat (wk + wk1)) (φ0 1 + 2)] 0)] (bi "list.__add__" [.ref (φ4 0 + 187), .ref (φ4 0 + 188)]) (fun n t => .ok (.ret (.ref n))) 0 [] (fun n => [listO (sliceN none (some place) (intV y.wl) ++ [.int (Int.ofNat (wk + wk1)) (φ0 1 + 2)]) 0])), (1, .mov [32, 0] [((y.we + 186), listO ((intV y.wl)) y.wep), ((φ4 0 + 190), { cls := .type "slice", dict := none, data := .fields ⟨[.int (Int.ofNat place) (φ2 1), .int (Int.ofNat K) (φ0 2), .none]⟩ })] (lgi [.ref (y.we + 186), .ref (φ4 0 + 190)]) (fun n t => .ok (.ret (.ref n))) 0 [] (fun n => [listO (sliceN (some place) (some K) (intV y.wl)) 0])), (1, .mov [2, 0] [((φ4 0 + 189), listO ((sliceN none (some place) (intV y.wl) ++ [Value.int (Int.ofNat (wk + wk1)) (φ0 1 + 2)])) 0), ((φ4 0 + 191), listO ((sliceN (some place) (some K) (intV y.wl))) 0)] (bi "list.__add__" [.ref (φ4 0 + 189), .ref (φ4 0 + 191)]) (fun n t => .ok (.ret (.ref n))) 0 [] (fun n => [listO ((sliceN none (some place) (intV y.wl) ++ [.int (Int.ofNat (wk + wk1)) (φ0 1 + 2)]) ++ sliceN (some place) (some K) (intV y.wl)) 0])), (3, .mov [35, 0] [((y.we + 186), listO ((intV y.wl)) y.wep), ((φ4 0 + 193), { cls := .type "slice", dict := none, data := .fields ⟨[.int (Int.ofNat (K + 2)) (φ4 1 + 2), .none, .none]⟩ })] (lgi [.ref (y.we + 186), .ref (φ4 0 + 193)]) (fun n t => .ok (.ret (.ref n))) 0 [] (fun n => [listO (sliceN (some (K + 2)) none (intV y.wl)) 0])), (1, .mov [2, 0] [((φ4 0 + 192), listO ((sliceN none (some place) (intV y.wl) ++ [Value.int (Int.ofNat (wk + wk1)) (φ0 1 + 2)] ++ sliceN (some place) (some K) (intV y.wl))) 0), ((φ4 0 + 194), listO ((sliceN (some (K + 2)) none (intV y.wl))) 0)] (bi "list.__add__" [.ref (φ4 0 + 192), .ref (φ4 0 + 194)]) (fun n t => .ok (.ret (.ref n))) 0 [] (fun n => [listO (((sliceN none (some place) (intV y.wl) ++ [.int (Int.ofNat (wk + wk1)) (φ0 1 + 2)]) ++ sliceN (some place) (some K) (intV y.wl)) ++ sliceN (some (K + 2)) none (intV y.wl)) 0])), (3, .mov [42, 0] [((z3.n + 210), rowO (z3.n + 209) (refV y.pre ++ Value.ref (y.a0 + 186) :: Value.ref (y.a1 + 186) :: refV y.post) y.rep), ((φ4 0 + 197), { cls := .type "slice", dict := none, data := .fields ⟨[.int (Int.ofNat K) (φ0 2), .none, .none]⟩ })] (lgi [.ref (z3.n + 210), .ref (φ4 0 + 197)]) (fun n t => .ok (.ret (.ref n))) 0 [] (fun n => [listO (.ref (y.a0 + 186) :: .ref (y.a1 + 186) :: refV y.post) 0])), (1, .mov [45, 0, 1] [((z3.n + 210), rowO (z3.n + 209) (refV y.pre ++ Value.ref (y.a0 + 186) :: Value.ref (y.a1 + 186) :: refV y.post) y.rep), ((φ4 0 + 200), { cls := .type "slice", dict := none, data := .fields ⟨[.int (Int.ofNat K) (φ0 2), .none, .none]⟩ }), ((φ4 0 + 199), listO [] 0)] (bi "list.__setitem__" [.ref (z3.n + 210), .ref (φ4 0 + 200), .ref (φ4 0 + 199)]) (fun n t => .ok (.ret (.none))) 0 [rowO (z3.n + 209) (refV y.pre) (y.rep + 1)] (fun n => [])), (3, .mov [47, 0] [((z3.n + 210), rowO (z3.n + 209) (refV y.pre) (y.rep + 1)), ((φ4 0 + 202), { cls := .type "slice", dict := none, data := .fields ⟨[.int (Int.ofNat place) (φ2 1), .none, .none]⟩ })] (lgi [.ref (z3.n + 210), .ref (φ4 0 + 202)]) (fun n t => .ok (.ret (.ref n))) 0 [] (fun n => [listO (refV (y.pre.drop place)) 0])), (1, .mov [50, 0, 1] [((z3.n + 210), rowO (z3.n + 209) (refV y.pre) (y.rep + 1)), ((φ4 0 + 205), { cls := .type "slice", dict := none, data := .fields ⟨[.int (Int.ofNat place) (φ2 1), .none, .none]⟩ }), ((φ4 0 + 204), listO [] 0)] (bi "list.__setitem__" [.ref (z3.n + 210), .ref (φ4 0 + 205), .ref (φ4 0 + 204)]) (fun n t => .ok (.ret (.none))) 0 [rowO (z3.n + 209) (refV (y.pre.take place)) (epOf y.pre.length (y.pre.take place).length (y.rep + 1))] (fun n => [])), (1, .ora [7] [((φ4 0 + 198), listO (.ref (y.a0 + 186) :: .ref (y.a1 + 186) :: (refV y.post)) 0)] (lgi [.ref (φ4 0 + 198), .int 0 (φ4 1 + 11)]) (fun t => Value.ref (y.a0 + 186)) 0), (4, .ora [7] [((φ4 0 + 198), listO (.ref (y.a0 + 186) :: .ref (y.a1 + 186) :: (refV y.post)) 0)] (lgi [.ref (φ4 0 + 198), .int 0 (φ4 1 + 13)]) (fun t => Value.ref (y.a0 + 186)) 0), (4, .ora [7] [((φ4 0 + 198), listO (.ref (y.a0 + 186) :: .ref (y.a1 + 186) :: (refV y.post)) 0)] (lgi [.ref (φ4 0 + 198), .int 1 (φ4 1 + 15)]) (fun t => Value.ref (y.a1 + 186)) 0), (4, .ora [] [] (bi "str.__add__" [.str (S y.y0) y.ty0, .str (S y.x1) y.tx1]) (fun t => Value.str (S (y.y0 ++ y.x1)) t) 1), (1, .ora [7] [((φ4 0 + 198), listO (.ref (y.a0 + 186) :: .ref (y.a1 + 186) :: (refV y.post)) 0)] (lgi [.ref (φ4 0 + 198), .int 1 (φ4 1 + 18)]) (fun t => Value.ref (y.a1 + 186)) 0), (4, .ora [] [] (bi "str.__add__" [.str (S (y.y0 ++ y.x1)) (φ4 1 + 17), .str (S y.y1) y.ty1]) (fun t => Value.str (S (y.y0 ++ y.x1 ++ y.y1)) t) 1), (3, .mov [52, 0] [((z3.n + 210), rowO (z3.n + 209) (refV (List.take place y.pre)) (epOf y.pre.length (List.take place y.pre).length (y.rep + 1))), ((φ4 0 + 207), tupO [.str (S y.x0) y.tx0, .str (S (y.y0 ++ y.x1 ++ y.y1)) (φ4 1 + 20)])] (bi "list.append" [.ref (z3.n + 210), .ref (φ4 0 + 207)]) (fun n t => .ok (.ret (.none))) 0 [rowO (z3.n + 209) (refV (y.pre.take place) ++ [.ref (φ4 0 + 207)]) ((epOf y.pre.length (y.pre.take place).length (y.rep + 1)) + 1)] (fun n => [])), (1, .ora [9] [((φ4 0 + 198), listO (.ref (y.a0 + 186) :: .ref (y.a1 + 186) :: (refV y.post)) 0)] (lgi [.ref (φ4 0 + 198), .int 0 (φ4 1 + 24)]) (fun t => Value.ref (y.a0 + 186)) 0), (4, .ora [9] [((φ4 0 + 198), listO (.ref (y.a0 + 186) :: .ref (y.a1 + 186) :: (refV y.post)) 0)] (lgi [.ref (φ4 0 + 198), .int 0 (φ4 1 + 26)]) (fun t => Value.ref (y.a0 + 186)) 0), (4, .ora [] [] (bi "str.__add__" [.str (S y.x0) y.tx0, .str (S y.y0) y.ty0]) (fun t => Value.str (S (y.x0 ++ y.y0)) t) 1), (1, .ora [9] [((φ4 0 + 198), listO (.ref (y.a0 + 186) :: .ref (y.a1 + 186) :: (refV y.post)) 0)] (lgi [.ref (φ4 0 + 198), .int 1 (φ4 1 + 29)]) (fun t => Value.ref (y.a1 + 186)) 0), (4, .ora [] [] (bi "str.__add__" [.str (S (y.x0 ++ y.y0)) (φ4 1 + 28), .str (S y.x1) y.tx1]) (fun t => Value.str (S (y.x0 ++ y.y0 ++ y.x1)) t) 1), (1, .ora [9] [((φ4 0 + 198), listO (.ref (y.a0 + 186) :: .ref (y.a1 + 186) :: (refV y.post)) 0)] (lgi [.ref (φ4 0 + 198), .int 1 (φ4 1 + 32)]) (fun t => Value.ref (y.a1 + 186)) 0), (4, .ora [] [] (bi "str.__add__" [.str (S (y.x0 ++ y.y0 ++ y.x1)) (φ4 1 + 31), .str (S y.y1) y.ty1]) (fun t => Value.str (S (y.x0 ++ y.y0 ++ y.x1 ++ y.y1)) t) 1), (20, .mov [22, 0] [((φ4 0 + 198), listO (.ref (y.a0 + 186) :: .ref (y.a1 + 186) :: (refV y.post)) 0), ((φ4 0 + 220), { cls := .type "slice", dict := none, data := .fields ⟨[.int 2 (φ4 1 + 53), .none, .none]⟩ })] (lgi [.ref (φ4 0 + 198), .ref (φ4 0 + 220)]) (fun n t => .ok (.ret (.ref n))) 0 [] (fun n => [listO (refV y.post) 0])), (1, .mov [18, 0] [((φ4 0 + 203), listO ((refV (List.drop place y.pre))) 0), ((φ4 0 + 221), listO ((refV y.post)) 0)] (bi "list.__add__" [.ref (φ4 0 + 203), .ref (φ4 0 + 221)]) (fun n t => .ok (.ret (.ref n))) 0 [] (fun n => [listO (refV (y.pre.drop place) ++ refV y.post) 0])), (2, .cut)]))]))]))]))]))]
noncomputable def tnA (w : World) (b lay : Bool) (z1 : Z1) (z2 : Z2) (z3 : Z3) (y : ZT) (zk : ZK) (j jl K place nl : Nat) (wk tk0 wk1 tk1 : Nat) (js : List Nat) (mx : Int) (kz : Bool) : RO :=
 run (V0 (wf w b)) 1249 ((dg 124 26527811414283062978984810723154196685259774830675141333911441053905236772660607316940185005748818791995473797321778406752211153595444808539547923192439442347281195440143187185858143117711839278103801431077366149223036051622754750162849649716515) ++ (c2L kz ++ (dg 442 30703751317896112213857261930840308620183093050821715595487853536633435265127857120031799441556697253164515396461245835857349750317858717597674972035289809730932331275669913810879361295334794743619206124115190950608360711663995393817657652494797488074485818965000795695418405837981102001716768122537005934110621305551989424328138151742575697049812393920191456583589640283030485352723770388455812107906761385850794032865909547036318584959221138832188919965844646177570568122820755257526897762921696284357681114839912131081305687194834826204177411297268584798862284391854149090509649732830838966976243666182171052898723729446361522861556419114769232451358343448907354029703721465191167613853898629194395701059415960200395605406453049961064329399458172162413034939076188304725148011514481226032517170321911562404984509395017653040704158145883774884085279068201610663215070539330))) (tnA_q w b lay z1 z2 z3 y zk j jl K place nl wk tk0 wk1 tk1 js mx kz) (forOf (lawStmt (wf w b).params 14) (y.it + 186) (lawEnv (wf w b).params z1.n)) none (.base) (denQ (forOf (lawStmt (wf w b).params 14) (y.it + 186) (lawEnv (wf w b).params z1.n))) ((z1.n + 186, lawA (wf w b) lay z1 z2 z3 11 (es1 (wf w b) y ++ [en (wf w b) c_kept y.k6 (.ref (y.ke + 186))])) :: (y.it + 186, rangeItO j (jl + 1)) :: (z1.n + 188, cellO (.ref (y.we + 186))) :: (z1.n + 189, cellO (.ref (y.de + 186))) :: (z1.n + 190, cell0) :: (y.we + 186, listO (intV y.wl) y.wep) :: (y.ke + 186, listO (intV y.kl) y.kep) :: (y.de + 186, listO (intV y.dl) y.d0) :: (z3.n + 210, rowO (z3.n + 209) (refV y.pre ++ (.ref (y.a0 + 186) :: .ref (y.a1 + 186) :: refV y.post)) y.rep) :: (z3.n + 209, dictO 1 [en (wf w b) c_iniize (z3.t + 46) (.int 0 286)]) :: (y.a0 + 186, tupO [.str (S y.x0) y.tx0, .str (S y.y0) y.ty0]) :: (y.a1 + 186, tupO [.str (S y.x1) y.tx1, .str (S y.y1) y.ty1]) :: (y.c1 + 186, codeO y.v0 y.q y.ctq y.rs) :: (158, tabO [.int 108 0, .int 4 0, .ref (y.c1 + 186), .int 112 0, .int 13 0, .ref (y.c2 + 186)]) :: (172, tabO []) :: y.r) (y.n + 186) (y.t) [.finished, .finished] Acc.nil Acc.nil
noncomputable def lxtnA (w : World) (b lay : Bool) (z1 : Z1) (z2 : Z2) (z3 : Z3) (y : ZT) (zk : ZK) (j jl K place nl : Nat) (wk tk0 wk1 tk1 : Nat) (js : List Nat) (mx : Int) (kz : Bool) (ps0 : Nat → SX) : LX := { lx := ((SX.fresh (ps0 4)) 0) + 31, dx := ((SX.fresh (ps0 4)) 0) + 30, st := ((SX.fresh (ps0 4)) 0) + 28, sd := ((SX.fresh (ps0 4)) 0) + 29, rf := ((SX.fresh (ps0 4)) 0) + 27, cd := y.c1, tc := ((SX.fresh (ps0 4)) 0) + 23, ac := ((SX.fresh (ps0 4)) 0) + 24, al := ((SX.fresh (ps0 4)) 0) + 25, pb := ((SX.fresh (ps0 4)) 0) + 33, ct := ((SX.fresh (ps0 4)) 0) + 26, k1 := ((SX.fresh (ps0 4)) 1) + 44, k2 := ((SX.fresh (ps0 4)) 1) + 46, k3 := ((SX.fresh (ps0 4)) 1) + 49, k4 := ((SX.fresh (ps0 4)) 1) + 51, kw := ((SX.fresh (ps0 4)) 1) + 47, kr := ((SX.fresh (ps0 4)) 1) + 39, km := 370, tk := ((SX.fresh (ps0 4)) 1) + 34, tq := y.ctq, dt := obFd (((tnA w b lay z1 z2 z3 y zk j jl K place nl wk tk0 wk1 tk1 js mx kz).ats ps0 5).ob 9), v0 := y.v0, q := y.q, rest := y.rs, text := S (y.x0 ++ y.y0 ++ y.x1 ++ y.y1) }
section
variable {h₀ : HS} {w : World} {b : Bool} (O : (Bw w b h₀).Ok) {A₀ : Around} (hA : AOk A₀ 260) {R : Result → Shared → Prop} {dr : Drawn} {os : OsState} {h : Heap}
include O hA
theorem tnA_t {lay : Bool} {z1 : Z1} {z2 : Z2} {z3 : Z3} {y : ZT} {zk : ZK} {j jl K place nl : Nat} {wk tk0 wk1 tk1 : Nat} {js : List Nat} {mx : Int} {kz : Bool} (hsz : 186 ≤ h₀.h.objs.size) (hKd : gwK (y.wl.map (·.1)) y.wl.length 0 = K) (hwk : (intV y.wl)[K]? = some (.int (Int.ofNat wk) tk0)) (hwk1 : (intV y.wl)[K + 1]? = some (.int (Int.ofNat wk1) tk1)) (hK : K < 100) (hkl : (intV y.kl).length = y.ml) (hml : y.ml < 100) (hwl : y.wl.length < 100) (hjs : js.length < 100) (hmx : 1 + mx = Int.ofNat place) (hpre : y.pre.length = K) (hpost : y.post.length < 100)
 (hnl : nl = (y.kl ++ y.wl).length) (hnl' : (intV (y.kl ++ y.wl)).length = nl) (hnl2 : nl < 900) (hnl0 : y.ml + K < nl) (hres : bisF (fun i => decide (mxAt ((y.kl ++ y.wl).map (·.1)) i < wk + wk1)) (y.ml + K - y.ml) y.ml (y.ml + K) = y.ml + place) (hKw : K ≤ y.wl.length) (hkz : kz = decide (K = 0)) (hjd : gwJ (wk + wk1) ((y.wl.take K).map (·.1)) 0 = js) (hmx1 : mxJ js (-1) = mx)
 (hx0 : y.x0 ≠ []) (hy0 : y.y0 ≠ []) (hx1 : y.x1 ≠ []) (hy1 : y.y1 ≠ []) (lx0 : y.x0.length < 100) (ly0 : y.y0.length < 100) (lx1 : y.x1.length < 100) (ly1 : y.y1.length < 100) (S₀ : St (Bw w b h₀) h ((z1.n + 186, lawA (wf w b) lay z1 z2 z3 11 (es1 (wf w b) y ++ [en (wf w b) c_kept y.k6 (.ref (y.ke + 186))])) :: (y.it + 186, rangeItO j (jl + 1)) :: (z1.n + 188, cellO (.ref (y.we + 186))) :: (z1.n + 189, cellO (.ref (y.de + 186))) :: (z1.n + 190, cell0) :: (y.we + 186, listO (intV y.wl) y.wep) :: (y.ke + 186, listO (intV y.kl) y.kep) :: (y.de + 186, listO (intV y.dl) y.d0) :: (z3.n + 210, rowO (z3.n + 209) (refV y.pre ++ (.ref (y.a0 + 186) :: .ref (y.a1 + 186) :: refV y.post)) y.rep) :: (z3.n + 209, dictO 1 [en (wf w b) c_iniize (z3.t + 46) (.int 0 286)]) :: (y.a0 + 186, tupO [.str (S y.x0) y.tx0, .str (S y.y0) y.ty0]) :: (y.a1 + 186, tupO [.str (S y.x1) y.tx1, .str (S y.y1) y.ty1]) :: (y.c1 + 186, codeO y.v0 y.q y.ctq y.rs) :: (158, tabO [.int 108 0, .int 4 0, .ref (y.c1 + 186), .int 112 0, .int 13 0, .ref (y.c2 + 186)]) :: (172, tabO []) :: y.r) (y.n + 186))
  (next : ∀ ps0 : Nat → SX, ∀ κ, κ = ktn w b z1.n y.it → depOk A₀ κ → κ.rlen = 1 → κ.len = 1 → ∀ h' t', St (Bw w b h₀) h' ((z1.n + 186, lawB (wf w b) lay z1 z2 z3 18 (ck lay z2.kk (y.t + 3)) (.int (Int.ofNat K) ((SX.fresh (ps0 0)) 2)) [en (wf w b) c_white y.k1 ((y.v1)), en (wf w b) c_word y.k2 ((y.v2)), en (wf w b) c_lexer y.k3 ((y.v3)), en (wf w b) c_told y.k4 ((y.v4)), en (wf w b) c_name y.k5 ((y.v5)), en (wf w b) c_kept y.k6 (.ref ((SX.fresh (ps0 0)) 0 + 186)), en (wf w b) c_turn (y.t + 1) (.int (Int.ofNat j) y.t)] [en (wf w b) [108, 111, 119] ((SX.fresh (ps0 0)) 1 + 5) (.int (Int.ofNat y.ml) ((SX.fresh (ps0 0)) 1 + 4)), en (wf w b) c_place ((SX.fresh (ps0 2)) 1 + 1) (.int (Int.ofNat place) ((SX.fresh (ps0 2)) 1)), en (wf w b) [111, 102, 102] ((SX.fresh (ps0 4)) 1 + 6) (.ref ((SX.fresh (ps0 4)) 0 + 198)), en (wf w b) c_moved ((SX.fresh (ps0 4)) 1 + 10) (.ref ((SX.fresh (ps0 4)) 0 + 203)), en (wf w b) c_reader ((SX.fresh (ps0 4)) 1 + 52) (.ref ((SX.fresh (ps0 4)) 0 + 217))]) :: (y.it + 186, rI (Int.ofNat (j + 1)) (Int.ofNat (jl + 1) - 1)) :: (z1.n + 188, cellO (.ref ((SX.fresh (ps0 4)) 0 + 195))) :: (z1.n + 189, cellO (.ref (y.de + 186))) :: (z1.n + 190, cellO (.int (Int.ofNat (wk + wk1)) ((SX.fresh (ps0 0)) 1 + 2))) :: ((SX.fresh (ps0 4)) 0 + 195, listO ((sliceN none (some place) (intV y.wl) ++ [Value.int (Int.ofNat (wk + wk1)) ((SX.fresh (ps0 0)) 1 + 2)] ++ sliceN (some place) (some K) (intV y.wl) ++ sliceN (some (K + 2)) none (intV y.wl))) 0) :: ((SX.fresh (ps0 0)) 0 + 186, listO ((intV (y.kl ++ y.wl))) 0) :: (y.de + 186, listO (intV y.dl) y.d0) :: (z3.n + 210, rowO (z3.n + 209) (refV (List.take place y.pre) ++ [Value.ref ((SX.fresh (ps0 4)) 0 + 207)]) (epOf y.pre.length (List.take place y.pre).length (y.rep + 1) + 1)) :: (z3.n + 209, dictO 1 [en (wf w b) c_iniize (z3.t + 46) (.int 0 286)]) :: ((SX.fresh (ps0 4)) 0 + 207, tupO [.str (S y.x0) y.tx0, .str (S (y.y0 ++ y.x1 ++ y.y1)) ((SX.fresh (ps0 4)) 1 + 20)]) :: ((SX.fresh (ps0 4)) 0 + 222, listO ((refV (List.drop place y.pre) ++ refV y.post)) 0) :: ((SX.fresh (ps0 4)) 0 + 223, { cls := .type "list_iterator", dict := none, data := .fields ⟨[.ref ((SX.fresh (ps0 4)) 0 + 222), .int 0 0]⟩ }) :: (lexLed (wf w b) (lxtnA w b lay z1 z2 z3 y zk j jl K place nl wk tk0 wk1 tk1 js mx kz ps0) 1 (((SX.fresh (ps0 4)) 1) + 42) 0 (((SX.fresh (ps0 4)) 1) + 35) [] 0 ++ (158, tabO [.int 108 0, .int 4 0, .ref (y.c1 + 186), .int 112 0, .int 13 0, .ref (y.c2 + 186)]) :: (172, tabO [.int 125 0, .int 79 0, .ref ((SX.fresh (ps0 1)) 0 + 192)]) :: ((SX.fresh (ps0 1)) 0 + 192, codeO (kV0 ((SX.fresh (ps0 1)) 1)) kQ (((SX.fresh (ps0 1)) 1) + 2) (keyCd ((SX.fresh (ps0 1)) 0) ((SX.fresh (ps0 1)) 1))) :: (y.we + 186, listO (intV y.wl) y.wep) :: y.r)) (((SX.fresh (ps0 4)) 0 + 224)) → cA w b (arnd A₀ κ) (forOf (tnStmt (wf w b).params 12) (((SX.fresh (ps0 4)) 0) + 37 + 186) (lawEnv (wf w b).params z1.n)) (endK (Bw w b h₀) A₀ R κ) (sh h' [.finished, .finished] dr t' os)) :
  cA w b A₀ (forOf (lawStmt (wf w b).params 14) (y.it + 186) (lawEnv (wf w b).params z1.n)) R (sh h [.finished, .finished] dr y.t os) := by
 have e0 := len_intV y.wl; have e1 := len_sliceN none (some place) (intV y.wl); have e2 := len_sliceN (some place) (some K) (intV y.wl); have e3 := len_sliceN (some (K + 2)) none (intV y.wl); have e4 := len_refV y.pre; have e5 := len_refV y.post; have e6 := len_refV (y.pre.drop place); have e7 := len_refV (y.pre.take place); simp only [List.length_drop, List.length_take] at e6 e7
 exact code_run (qs := (tnA_q w b lay z1 z2 z3 y zk j jl K place nl wk tk0 wk1 tk1 js mx kz)) O (hA.le (by lia))  (aC ⟨gap_wk O (hA.le (by lia)) (hA.le (by lia)) hsz (by decide) hwl hKd, fun φ => iO (ora_list_item _ _ _ _ _ _ hwk (by lia)) <| iO (ora_list_item _ _ _ _ _ _ hwk1 (by lia)) <| iO (ora_len_list' _ _ _ _ hkl (by lia)) <| iM (mov_list_add_eq _ _ _ _ _ _ _ (by simp only [len_intV] at *; lia) (intV_append _ _)) <| iO (ora_len_list' _ _ _ _ hnl' (by lia)) <| iM (mov_range_iter _ _ _ _ _ (by lia)) <| iG (gap_c4 O (hA.le (by lia)) hsz (by decide) (by lia) (by lia)) (fun φ => iO (ora_neg _ _ _ rfl) <| iG (gap_bi O (hA.le (by lia)) hsz (by decide) (by simp [frL]) hnl hnl2 hnl0 hres) (fun φ => iO (ora_sub _ _ _ _ _ (by first | lia | (simp; lia))) <| iM (mov_range_iter _ _ _ _ _ (by lia)) <| iG (gap_c2 O (hA.le (by lia)) (hA.le (by lia)) hsz (by decide) kz hKw hwl hkz hjd) (fun φ => iM (mov_list_add_eq _ _ [_] _ _ _ _ (by simp [intV, frL]; lia) (by rw [zW_intV]; rfl)) <| iG (gap_max O (hA.le (by lia)) hsz (by decide) (by rw [maxOf_zW _ _ _ (by simp [frL])]; exact hmx1)) (fun φ => iO (ora_add _ _ _ _ _ hmx) <| iO (ora_ne _ _ _ _ _ (by simp)) <| iM (mov_slice _ _ _ _ _ _ _ none (some place) rfl .none (.nat _ _) (by rw [len_intV]; lia)) <| iM (mov_list_add _ _ _ _ _ _ (by first | lia | (simp; lia))) <| iM (mov_slice _ _ _ _ _ _ _ (some place) (some K) rfl (.nat _ _) (.nat _ _) (by rw [len_intV]; lia)) <| iM (mov_list_add _ _ _ _ _ _ (by first | lia | (simp; lia))) <| iM (mov_slice _ _ _ _ _ _ _ (some (K + 2)) none rfl (.nat _ _) .none (by rw [len_intV]; lia)) <| iM (mov_list_add _ _ _ _ _ _ (by first | lia | (simp; lia))) <| iM (mov_slice_eq _ _ _ _ _ _ _ (some K) none _ rfl (.nat _ _) .none (by first | lia | (simp; lia)) (off_eq hpre)) <| iM (mov_setnil _ _ _ _ _ _ _ _ _ _ _ (by simp) (by first | lia | (simp; lia)) (tak_eq hpre) (by unfold epOf; simp [refV])) <| iM (mov_slice_eq _ _ _ _ _ _ _ (some place) none _ rfl (.nat _ _) .none (by first | lia | (simp; lia)) (mvd_eq _ _)) <| iM (mov_setnil _ _ _ _ _ _ _ _ _ _ _ (by simp) (by first | lia | (simp; lia)) (mvt_eq _ _) (by simp [refV])) <| iO (ora_list_item _ _ _ 0 _ _ rfl (by lia)) <| iO (ora_list_item _ _ _ 0 _ _ rfl (by lia)) <| iO (ora_list_item _ _ _ 1 _ _ rfl (by lia)) <| iO (ora_sadd _ _ _ _ (by simp [hx0, hx1, hy0, hy1]) (by simp [hx0, hx1, hy0, hy1]) (by first | lia | (simp; lia))) <| iO (ora_list_item _ _ _ 1 _ _ rfl (by lia)) <| iO (ora_sadd _ _ _ _ (by simp [hx0, hx1, hy0, hy1]) (by simp [hx0, hx1, hy0, hy1]) (by first | lia | (simp; lia))) <| iM (mov_append _ _ _ _ _ _ (by first | lia | (simp; lia))) <| iO (ora_list_item _ _ _ 0 _ _ rfl (by lia)) <| iO (ora_list_item _ _ _ 0 _ _ rfl (by lia)) <| iO (ora_sadd _ _ _ _ (by simp [hx0, hx1, hy0, hy1]) (by simp [hx0, hx1, hy0, hy1]) (by first | lia | (simp; lia))) <| iO (ora_list_item _ _ _ 1 _ _ rfl (by lia)) <| iO (ora_sadd _ _ _ _ (by simp [hx0, hx1, hy0, hy1]) (by simp [hx0, hx1, hy0, hy1]) (by first | lia | (simp; lia))) <| iO (ora_list_item _ _ _ 1 _ _ rfl (by lia)) <| iO (ora_sadd _ _ _ _ (by simp [hx0, hx1, hy0, hy1]) (by simp [hx0, hx1, hy0, hy1]) (by first | lia | (simp; lia))) <| iM (mov_slice_eq _ _ _ _ _ _ _ (some 2) none _ rfl (.nat 2 _) .none (by first | lia | (simp; lia)) rfl) <| iM (mov_list_add _ _ _ _ _ _ (by first | lia | (simp; lia))) <| iK <| iN) <| iN) <| iN) <| iN) <| iN⟩ <| aN) (FineS.ats (o := tnA w b lay z1 z2 z3 y zk j jl K place nl wk tk0 wk1 tk1 js mx kz) (m := 5) fun ps0 => (fine_cut (is := [60, 61, 62, 63, 64, 28, 59, 67, 68, 69, 16, 1, 0, 6, 7, 12, 4, 9, 8, 10, 72, 14, 13, 73, 74, 46, 65]) (d := 75) (Vw.Is.eq (by refine Bool.rec (Bool.rec (Bool.rec ?_ ?_ kz) (Bool.rec ?_ ?_ kz) lay) (Bool.rec (Bool.rec ?_ ?_ kz) (Bool.rec ?_ ?_ kz) lay) b <;> and_intros <;> kernel_rfl)) rfl (next ps0 _ (rk_eq (by refine Bool.rec (Bool.rec (Bool.rec ?_ ?_ kz) (Bool.rec ?_ ?_ kz) lay) (Bool.rec (Bool.rec ?_ ?_ kz) (Bool.rec ?_ ?_ kz) lay) b <;> kernel_rfl))))) S₀
theorem tnAe_t {lay : Bool} {z1 : Z1} {z2 : Z2} {z3 : Z3} {y : ZT} {zk : ZK} {j jl K place nl : Nat} {wk tk0 wk1 tk1 : Nat} {js : List Nat} {mx : Int} {kz : Bool} {pz : Nat → SX} {u : ZU} {a1 a2 ln2 p2 ln3 p3 : Nat} {dl2 : List Nat} {κ : RK} (hκ : κ = ktn w b z1.n y.it) {ml : Nat} (hl : κ.rlen = ml + 1) (hd : depOk A₀ κ) (gT : ∀ (idx : List Nat), idx.Nodup → GapOk (Bw w b h₀) A₀ 3 idx (lexLed (wf w b) (lxtnA w b lay z1 z2 z3 y zk j jl K place nl wk tk0 wk1 tk1 js mx kz pz) 1 ((SX.fresh (pz 4)) 1 + 42) 0 ((SX.fresh (pz 4)) 1 + 35) [] 0) (Code.call (.ref 49) ⟨[.ref ((lxtnA w b lay z1 z2 z3 y zk j jl K place nl wk tk0 wk1 tk1 js mx kz pz).lx + 186)], []⟩) (fun φ => .ok (.ret (.str (S [a1 + 1, a2 + 1]) (φ 4)))) (fun φ => [instO 59 ((lxtnA w b lay z1 z2 z3 y zk j jl K place nl wk tk0 wk1 tk1 js mx kz pz).dx + 186), lexD (wf w b) (lxtnA w b lay z1 z2 z3 y zk j jl K place nl wk tk0 wk1 tk1 js mx kz pz) ln2 (φ 2), listO [.int (Int.ofNat p2) (φ 3)] 0]))
 (gL : ∀ (t0 t1 t2 : Nat) (idx : List Nat), idx.Nodup → GapOk (Bw w b h₀) A₀ 3 idx ((z1.n + 186, lawB (wf w b) lay z1 z2 z3 18 (ck lay z2.kk (y.t + 3)) (.int (Int.ofNat K) ((SX.fresh (pz 0)) 2)) [en (wf w b) c_white y.k1 ((u.v1)), en (wf w b) c_word y.k2 ((u.v2)), en (wf w b) c_lexer y.k3 ((y.v3)), en (wf w b) c_told y.k4 ((y.v4)), en (wf w b) c_name y.k5 (.str (S [a1 + 1, a2 + 1]) t0), en (wf w b) c_kept y.k6 (.ref ((SX.fresh (pz 0)) 0 + 186)), en (wf w b) c_turn (y.t + 1) (.int (Int.ofNat j) y.t)] [en (wf w b) [108, 111, 119] ((SX.fresh (pz 0)) 1 + 5) (.int (Int.ofNat y.ml) ((SX.fresh (pz 0)) 1 + 4)), en (wf w b) c_place ((SX.fresh (pz 2)) 1 + 1) (.int (Int.ofNat place) ((SX.fresh (pz 2)) 1)), en (wf w b) [111, 102, 102] ((SX.fresh (pz 4)) 1 + 6) (.ref ((SX.fresh (pz 4)) 0 + 198)), en (wf w b) c_moved ((SX.fresh (pz 4)) 1 + 10) (.ref ((SX.fresh (pz 4)) 0 + 203)), en (wf w b) c_reader ((SX.fresh (pz 4)) 1 + 52) (.ref ((SX.fresh (pz 4)) 0 + 217))]) :: (z2.n + 186, namesO z2) :: (z1.n + 189, cellO (.ref (y.de + 186))) :: (y.de + 186, listO (intV y.dl) y.d0) :: lexLed (wf w b) (lxtnA w b lay z1 z2 z3 y zk j jl K place nl wk tk0 wk1 tk1 js mx kz pz) ln2 t1 p2 t2 [] 0) (whOf (tnStmt (wf w b).params 14) (lawEnv (wf w b).params z1.n)) (fun φ => .ok .next) (fun φ => [lawB (wf w b) lay z1 z2 z3 18 (ck lay z2.kk (y.t + 3)) (.int (Int.ofNat K) ((SX.fresh (pz 0)) 2)) [en (wf w b) c_white y.k1 ((u.v1)), en (wf w b) c_word y.k2 ((u.v2)), en (wf w b) c_lexer y.k3 ((y.v3)), en (wf w b) c_told y.k4 ((y.v4)), en (wf w b) c_name y.k5 (.str (S []) (φ 2)), en (wf w b) c_kept y.k6 (.ref ((SX.fresh (pz 0)) 0 + 186)), en (wf w b) c_turn (y.t + 1) (.int (Int.ofNat j) y.t)] [en (wf w b) [108, 111, 119] ((SX.fresh (pz 0)) 1 + 5) (.int (Int.ofNat y.ml) ((SX.fresh (pz 0)) 1 + 4)), en (wf w b) c_place ((SX.fresh (pz 2)) 1 + 1) (.int (Int.ofNat place) ((SX.fresh (pz 2)) 1)), en (wf w b) [111, 102, 102] ((SX.fresh (pz 4)) 1 + 6) (.ref ((SX.fresh (pz 4)) 0 + 198)), en (wf w b) c_moved ((SX.fresh (pz 4)) 1 + 10) (.ref ((SX.fresh (pz 4)) 0 + 203)), en (wf w b) c_reader ((SX.fresh (pz 4)) 1 + 52) (.ref ((SX.fresh (pz 4)) 0 + 217))], namesO z2, cellO (.ref (y.de + 186)), listO (intV (dl2.zip (frL φ 6))) y.d0, instO 59 ((lxtnA w b lay z1 z2 z3 y zk j jl K place nl wk tk0 wk1 tk1 js mx kz pz).dx + 186), lexD (wf w b) (lxtnA w b lay z1 z2 z3 y zk j jl K place nl wk tk0 wk1 tk1 js mx kz pz) ln3 (φ 3), listO [.int (Int.ofNat p3) (φ 4)] 0])) (S₀ : St (Bw w b h₀) h ((z1.n + 186, lawB (wf w b) lay z1 z2 z3 18 (ck lay z2.kk (y.t + 3)) (.int (Int.ofNat K) ((SX.fresh (pz 0)) 2)) [en (wf w b) c_white y.k1 ((u.v1)), en (wf w b) c_word y.k2 ((u.v2)), en (wf w b) c_lexer y.k3 ((y.v3)), en (wf w b) c_told y.k4 ((y.v4)), en (wf w b) c_name y.k5 ((y.v5)), en (wf w b) c_kept y.k6 (.ref ((SX.fresh (pz 0)) 0 + 186)), en (wf w b) c_turn (y.t + 1) (.int (Int.ofNat j) y.t)] [en (wf w b) [108, 111, 119] ((SX.fresh (pz 0)) 1 + 5) (.int (Int.ofNat y.ml) ((SX.fresh (pz 0)) 1 + 4)), en (wf w b) c_place ((SX.fresh (pz 2)) 1 + 1) (.int (Int.ofNat place) ((SX.fresh (pz 2)) 1)), en (wf w b) [111, 102, 102] ((SX.fresh (pz 4)) 1 + 6) (.ref ((SX.fresh (pz 4)) 0 + 198)), en (wf w b) c_moved ((SX.fresh (pz 4)) 1 + 10) (.ref ((SX.fresh (pz 4)) 0 + 203)), en (wf w b) c_reader ((SX.fresh (pz 4)) 1 + 52) (.ref ((SX.fresh (pz 4)) 0 + 217))]) :: (lexLed (wf w b) (lxtnA w b lay z1 z2 z3 y zk j jl K place nl wk tk0 wk1 tk1 js mx kz pz) 1 ((SX.fresh (pz 4)) 1 + 42) 0 ((SX.fresh (pz 4)) 1 + 35) [] 0 ++ (z2.n + 186, namesO z2) :: (z1.n + 189, cellO (.ref (y.de + 186))) :: (y.de + 186, listO (intV y.dl) y.d0) :: u.r)) (u.n + 186))
  (next : ∀ ps0 : Nat → SX, ∀ h' t', St (Bw w b h₀) h' ((z1.n + 186, lawB (wf w b) lay z1 z2 z3 18 (ck lay z2.kk (y.t + 3)) (.int (Int.ofNat K) ((SX.fresh (pz 0)) 2)) [en (wf w b) c_white y.k1 ((u.v1)), en (wf w b) c_word y.k2 ((u.v2)), en (wf w b) c_lexer y.k3 ((y.v3)), en (wf w b) c_told y.k4 ((y.v4)), en (wf w b) c_name y.k5 (.str (S []) ((SX.fresh (ps0 1)) 2)), en (wf w b) c_kept y.k6 (.ref ((pz 0).snd.2 0 + 186)), en (wf w b) c_turn (y.t + 1) (.int (Int.ofNat j) y.t)] [en (wf w b) [108, 111, 119] ((pz 0).snd.2 1 + 5) (.int (Int.ofNat y.ml) ((pz 0).snd.2 1 + 4)), en (wf w b) c_place ((pz 2).snd.2 1 + 1) (.int (Int.ofNat place) ((pz 2).snd.2 1)), en (wf w b) [111, 102, 102] ((pz 4).snd.2 1 + 6) (.ref ((pz 4).snd.2 0 + 198)), en (wf w b) c_moved ((pz 4).snd.2 1 + 10) (.ref ((pz 4).snd.2 0 + 203)), en (wf w b) c_reader ((pz 4).snd.2 1 + 52) (.ref ((pz 4).snd.2 0 + 217))]) :: (lexLed (wf w b) (lxtnA w b lay z1 z2 z3 y zk j jl K place nl wk tk0 wk1 tk1 js mx kz pz) ln3 ((SX.fresh (ps0 1)) 3) p3 ((SX.fresh (ps0 1)) 4) [] 0 ++ (y.de + 186, listO ((intV (dl2.zip (frL (SX.fresh (ps0 1)) 6)))) y.d0) :: (z2.n + 186, namesO z2) :: (z1.n + 189, cellO (.ref (y.de + 186))) :: u.r)) (((SX.fresh (ps0 1)) 0 + 186)) → cA w b A₀ (forOf (lawStmt (wf w b).params 14) (y.it + 186) (lawEnv (wf w b).params z1.n)) R (sh h' [.finished, .finished] dr t' os)) :
  endK (Bw w b h₀) A₀ R κ (.ok .next) (sh h [.finished, .finished] dr u.t os) := by
 exact rest_run (f := 39) (ls := (dg 19 969252632536463508050029287961371938)) (qs := [(0, .gap 3 [1, 2, 3, 4, 5, 6, 7, 8, 9, 10] (lexLed (wf w b) (lxtnA w b lay z1 z2 z3 y zk j jl K place nl wk tk0 wk1 tk1 js mx kz pz) 1 ((SX.fresh (pz 4)) 1 + 42) 0 ((SX.fresh (pz 4)) 1 + 35) [] 0) (.call (.ref 49) ⟨[.ref ((pz 4).snd.2 0 + 217)], []⟩) (fun φ => .ok (.ret (.str (S [a1 + 1, a2 + 1]) (φ 4)))) (fun φ => [instO 59 ((lxtnA w b lay z1 z2 z3 y zk j jl K place nl wk tk0 wk1 tk1 js mx kz pz).dx + 186), lexD (wf w b) (lxtnA w b lay z1 z2 z3 y zk j jl K place nl wk tk0 wk1 tk1 js mx kz pz) ln2 (φ 2), listO [.int (Int.ofNat p2) (φ 3)] 0]) (fun φ0 => [(0, .gap 3 [0, 11, 12, 13, 1, 2, 3, 4, 5, 6, 7, 8, 9, 10] ((z1.n + 186, lawB (wf w b) lay z1 z2 z3 18 (ck lay z2.kk (y.t + 3)) (.int (Int.ofNat K) ((SX.fresh (pz 0)) 2)) [en (wf w b) c_white y.k1 ((u.v1)), en (wf w b) c_word y.k2 ((u.v2)), en (wf w b) c_lexer y.k3 ((y.v3)), en (wf w b) c_told y.k4 ((y.v4)), en (wf w b) c_name y.k5 (.str (S [a1 + 1, a2 + 1]) (φ0 4)), en (wf w b) c_kept y.k6 (.ref ((SX.fresh (pz 0)) 0 + 186)), en (wf w b) c_turn (y.t + 1) (.int (Int.ofNat j) y.t)] [en (wf w b) [108, 111, 119] ((SX.fresh (pz 0)) 1 + 5) (.int (Int.ofNat y.ml) ((SX.fresh (pz 0)) 1 + 4)), en (wf w b) c_place ((SX.fresh (pz 2)) 1 + 1) (.int (Int.ofNat place) ((SX.fresh (pz 2)) 1)), en (wf w b) [111, 102, 102] ((SX.fresh (pz 4)) 1 + 6) (.ref ((SX.fresh (pz 4)) 0 + 198)), en (wf w b) c_moved ((SX.fresh (pz 4)) 1 + 10) (.ref ((SX.fresh (pz 4)) 0 + 203)), en (wf w b) c_reader ((SX.fresh (pz 4)) 1 + 52) (.ref ((SX.fresh (pz 4)) 0 + 217))]) :: (z2.n + 186, namesO z2) :: (z1.n + 189, cellO (.ref (y.de + 186))) :: (y.de + 186, listO (intV y.dl) y.d0) :: lexLed (wf w b) (lxtnA w b lay z1 z2 z3 y zk j jl K place nl wk tk0 wk1 tk1 js mx kz pz) ln2 (φ0 2) p2 (φ0 3) [] 0) (whOf (tnStmt (wf w b).params 14) (lawEnv (wf w b).params z1.n)) (fun φ => .ok .next) (fun φ => [lawB (wf w b) lay z1 z2 z3 18 (ck lay z2.kk (y.t + 3)) (.int (Int.ofNat K) ((SX.fresh (pz 0)) 2)) [en (wf w b) c_white y.k1 ((u.v1)), en (wf w b) c_word y.k2 ((u.v2)), en (wf w b) c_lexer y.k3 ((y.v3)), en (wf w b) c_told y.k4 ((y.v4)), en (wf w b) c_name y.k5 (.str (S []) (φ 2)), en (wf w b) c_kept y.k6 (.ref ((SX.fresh (pz 0)) 0 + 186)), en (wf w b) c_turn (y.t + 1) (.int (Int.ofNat j) y.t)] [en (wf w b) [108, 111, 119] ((SX.fresh (pz 0)) 1 + 5) (.int (Int.ofNat y.ml) ((SX.fresh (pz 0)) 1 + 4)), en (wf w b) c_place ((SX.fresh (pz 2)) 1 + 1) (.int (Int.ofNat place) ((SX.fresh (pz 2)) 1)), en (wf w b) [111, 102, 102] ((SX.fresh (pz 4)) 1 + 6) (.ref ((SX.fresh (pz 4)) 0 + 198)), en (wf w b) c_moved ((SX.fresh (pz 4)) 1 + 10) (.ref ((SX.fresh (pz 4)) 0 + 203)), en (wf w b) c_reader ((SX.fresh (pz 4)) 1 + 52) (.ref ((SX.fresh (pz 4)) 0 + 217))], namesO z2, cellO (.ref (y.de + 186)), listO (intV (dl2.zip (frL φ 6))) y.d0, instO 59 ((lxtnA w b lay z1 z2 z3 y zk j jl K place nl wk tk0 wk1 tk1 js mx kz pz).dx + 186), lexD (wf w b) (lxtnA w b lay z1 z2 z3 y zk j jl K place nl wk tk0 wk1 tk1 js mx kz pz) ln3 (φ 3), listO [.int (Int.ofNat p3) (φ 4)] 0]) (fun φ1 => [(0, .cut)]))]))]) O (hA.le (by lia)) hκ hl hd (aC ⟨gT _ (by decide), fun φ => iG (gL _ _ _ _ (by decide)) (fun φ => iK <| iN) <| iN⟩ <| aN) (FineS.ats (m := 2) fun ps0 => (fine_loop (is := [0, 1, 2, 3, 4, 5, 6, 7, 8, 9, 10, 13, 11, 12]) (d := 14) (Vw.Is.eq (by refine Bool.rec (Bool.rec (Bool.rec ?_ ?_ kz) (Bool.rec ?_ ?_ kz) lay) (Bool.rec (Bool.rec ?_ ?_ kz) (Bool.rec ?_ ?_ kz) lay) b <;> and_intros <;> kernel_rfl)) rfl (next ps0))) S₀
end
noncomputable def tnB_q (w : World) (b lay : Bool) (z1 : Z1) (z2 : Z2) (z3 : Z3) (y : ZT) (zk : ZK) (j jl K place nl : Nat) (wk tk0 wk1 tk1 : Nat) (js : List Nat) (mx : Int) (kz : Bool) : List (Nat × Act) := [(2, .gap 3 [0, 2, 5] ([(z1.n + 186, lawB (wf w b) lay z1 z2 z3 18 y.kt (.int 0 (y.t + 2)) (es1 (wf w b) y ++ [en (wf w b) c_kept y.k6 (.ref (y.ke + 186)), en (wf w b) c_turn y.k7 (.int (Int.ofNat j) y.t)]) (es2 (wf w b) y)), (z1.n + 188, cellO (.ref (y.we + 186))), (y.we + 186, listO (intV y.wl) y.wep)]) (whOf (tnStmt (wf w b).params 1) (lawEnv (wf w b).params z1.n)) (fun φ => .ok .next) (fun φ => [lawB (wf w b) lay z1 z2 z3 18 y.kt (.int (Int.ofNat K) (φ 2)) (es1 (wf w b) y ++ [en (wf w b) c_kept y.k6 (.ref (y.ke + 186)), en (wf w b) c_turn y.k7 (.int (Int.ofNat j) y.t)]) (es2 (wf w b) y)]) (fun φ0 => [(1, .ora [5] [((y.we + 186), listO ((intV y.wl)) y.wep)] (lgi [.ref (y.we + 186), .int (Int.ofNat K) (φ0 2)]) (fun t => Value.int (Int.ofNat wk) tk0) 0), (3, .ora [5] [((y.we + 186), listO ((intV y.wl)) y.wep)] (lgi [.ref (y.we + 186), .int (Int.ofNat (K + 1)) (φ0 1 + 1)]) (fun t => Value.int (Int.ofNat wk1) tk1) 0), (3, .ora [6] [((y.ke + 186), listO ((intV y.kl)) y.kep)] (bi "len" [.ref (y.ke + 186)]) (fun t => Value.int (Int.ofNat y.ml) (t + 1)) 2), (1, .mov [6, 5] [((y.ke + 186), listO ((intV y.kl)) y.kep), ((y.we + 186), listO ((intV y.wl)) y.wep)] (bi "list.__add__" [.ref (y.ke + 186), .ref (y.we + 186)]) (fun n t => .ok (.ret (.ref n))) 0 [] (fun n => [listO (intV (y.kl ++ y.wl)) 0])), (5, .ora [2] [((φ0 0 + 186), listO ((intV (y.kl ++ y.wl))) 0)] (bi "len" [.ref (φ0 0 + 186)]) (fun t => Value.int (Int.ofNat nl) (t + 1)) 2), (7, .mov [0] [((φ0 0 + 189), { cls := .type "range", dict := none, data := .fields ⟨[.int 0 (φ0 1 + 13), .int (Int.ofNat nl) (φ0 1 + 12), .int 1 (φ0 1 + 14)]⟩ })] (bi "range.__iter__" [.ref (φ0 0 + 189)]) (fun n t => .ok (.ret (.ref n))) 0 [] (fun n => [rangeItO 0 nl])), (1, .gap 4 [2, 1, 0] ([((φ0 0) + 4 + 186, rangeItO 0 nl), ((φ0 0) + 5 + 186, listO [] 0), ((φ0 0) + 6 + 186, dictO 0 [])]) (c4 (wf w b).params ((φ0 0) + 4 + 186) ((φ0 0) + 5 + 186) ((φ0 0) + 6 + 186) ((φ0 0) + 1 + 186)) (fun φ => .ok .next) (fun φ => [rangeItO nl 0, listO (intV ((List.range' 0 nl).zip (frL φ nl))) (φ 2), dictO 1 [en (wf w b) [106] (φ 3) (.int (Int.ofNat (φ 4)) (φ 5))]]) (fun φ1 => [(1, .ora [] [] (bi "int.__neg__" [.int (Int.ofNat (wk + wk1)) (φ0 1 + 2)]) (fun t => Value.int (-Int.ofNat (wk + wk1)) t) 1), (4, .gap 4 [0, 4, 1, 25, 7, 9] ((((φ1 0) + 2) + 186, biFr (wf w b) ((φ0 0) + 5) ((φ1 1) + 1) ((φ1 1) + 2) ((φ1 1) + 3) ((φ1 1) + 4) ((φ1 1) + 5) ((φ1 1)) ((φ0 1) + 4) ((φ0 1) + 7) ((φ1 0) + 1) (wk + wk1) y.ml (y.ml + K) 5 []) :: biRest (wf w b) ((φ0 0) + 5) ((φ1 0) + 1) (φ1 2) ((φ0 0) + 2) zk.c3 ((φ1 0)) ((φ0 0)) 0 zk.wtq nl zk.w0 zk.wq zk.wrs (frL φ1 nl) (y.kl ++ y.wl)) (biLoop (wf w b).params ((φ1 0) + 2)) (fun φ => .ok .next) (fun φ => [biFr (wf w b) ((φ0 0) + 5) ((φ1 1) + 1) ((φ1 1) + 2) ((φ1 1) + 3) ((φ1 1) + 4) ((φ1 1) + 5) ((φ1 1)) (φ 2) (φ 3) ((φ1 0) + 1) (wk + wk1) (y.ml + place) (φ 4) (φ 5) (msF (wf w b) (φ 6) (φ 7) (φ 8) (φ 9))]) (fun φ2 => [(1, .ora [] [] (bi "int.__sub__" [.int (Int.ofNat (y.ml + place)) (φ2 2), .int (Int.ofNat y.ml) (φ0 1 + 4)]) (fun t => Value.int (Int.ofNat place) t) 1), (9, .mov [0] [((φ2 0 + 187), { cls := .type "range", dict := none, data := .fields ⟨[.int 0 (φ2 1 + 5), .int (Int.ofNat K) (φ0 2), .int 1 (φ2 1 + 6)]⟩ })] (bi "range.__iter__" [.ref (φ2 0 + 187)]) (fun n t => .ok (.ret (.ref n))) 0 [] (fun n => [rangeItO 0 K])), (1, .gap 3 [2, 1, 0, 17, 20, 19] ([((φ2 0) + 2 + 186, rangeItO 0 K), ((φ2 0) + 3 + 186, listO [] 0), ((φ2 0) + 4 + 186, dictO 0 []), (z1.n + 2 + 186, cellO (.ref (y.we + 186))), (y.we + 186, listO (intV y.wl) y.wep), (z1.n + 4 + 186, cellO (.int (Int.ofNat (wk + wk1)) (φ0 1 + 2)))]) (c2 (wf w b).params ((φ2 0) + 2 + 186) ((φ2 0) + 3 + 186) ((φ2 0) + 4 + 186) (z1.n + 186) (z1.n + 2 + 186) (z1.n + 4 + 186)) (fun φ => .ok .next) (fun φ => [rangeItO K 0, listO (intV (js.zip (frL φ js.length))) (φ 2), c2Loc (wf w b) kz (φ 3) (φ 4) (φ 5)]) (fun φ3 => [(1, .mov [4, 1] [((φ2 0 + 186), listO [.int (-1) (φ2 1 + 4)] 0), ((φ2 0 + 189), listO ((intV (js.zip (frL φ3 js.length)))) (φ3 2))] (bi "list.__add__" [.ref (φ2 0 + 186), .ref (φ2 0 + 189)]) (fun n t => .ok (.ret (.ref n))) 0 [] (fun n => [listO (intW ((-1, (φ2 1 + 4)) :: zW js (frL φ3 js.length))) 0])), (1, .gap 3 [0] ([((φ3 0) + 186, listO (intW ((-1, (φ2 1 + 4)) :: zW js (frL φ3 js.length))) 0)]) (bi "max" [.ref (φ3 0 + 186)]) (fun φ => .ok (.ret (.int mx (φ 2)))) (fun φ => []) (fun φ4 => [(1, .ora [] [] (bi "int.__add__" [.int 1 (φ2 1 + 2), .int (mx) (φ4 2)]) (fun t => Value.int (Int.ofNat place) t) 1), (1, .ora [] [] (bi "int.__ne__" [.int (Int.ofNat place) (φ2 1), .int (Int.ofNat place) (φ4 1)]) (fun t => Value.bool false) 0), (1, .mov [22, 0] [((y.we + 186), listO ((intV y.wl)) y.wep), ((φ4 0 + 186), { cls := .type "slice", dict := none, data := .fields ⟨[.none, .int (Int.ofNat place) (φ2 1), .none]⟩ })] (lgi [.ref (y.we + 186), .ref (φ4 0 + 186)]) (fun n t => .ok (.ret (.ref n))) 0 [] (fun n => [listO (sliceN none (some place) (intV y.wl)) 0])), (1, .mov [1, 0] [((φ4 0 + 187), listO ((sliceN none (some place) (intV y.wl))) 0), ((φ4 0 + 188), listO [.int (Int.ofNat (wk + wk1)) (φ0 1 + 2)] 0)] (bi "list.__add__" [.ref (φ4 0 + 187), .ref (φ4 0 + 188)]) (fun n t => .ok (.ret (.ref n))) 0 [] (fun n => [listO (sliceN none (some place) (intV y.wl) ++ [.int (Int.ofNat (wk + wk1)) (φ0 1 + 2)]) 0])), (1, .mov [26, 0] [((y.we + 186), listO ((intV y.wl)) y.wep), ((φ4 0 + 190), { cls := .type "slice", dict := none, data := .fields ⟨[.int (Int.ofNat place) (φ2 1), .int (Int.ofNat K) (φ0 2), .none]⟩ })] (lgi [.ref (y.we + 186), .ref (φ4 0 + 190)]) (fun n t => .ok (.ret (.ref n))) 0 [] (fun n => [listO (sliceN (some place) (some K) (intV y.wl)) 0])), (1, .mov [2, 0] [((φ4 0 + 189), listO ((sliceN none (some place) (intV y.wl) ++ [Value.int (Int.ofNat (wk + wk1)) (φ0 1 + 2)])) 0), ((φ4 0 + 191), listO ((sliceN (some place) (some K) (intV y.wl))) 0)] (bi "list.__add__" [.ref (φ4 0 + 189), .ref (φ4 0 + 191)]) (fun n t => .ok (.ret (.ref n))) 0 [] (fun n => [listO ((sliceN none (some place) (intV y.wl) ++ [.int (Int.ofNat (wk + wk1)) (φ0 1 + 2)]) ++ sliceN (some place) (some K) (intV y.wl)) 0])), (3, .mov [29, 0] [((y.we + 186), listO ((intV y.wl)) y.wep), ((φ4 0 + 193), { cls := .type "slice", dict := none, data := .fields ⟨[.int (Int.ofNat (K + 2)) (φ4 1 + 2), .none, .none]⟩ })] (lgi [.ref (y.we + 186), .ref (φ4 0 + 193)]) (fun n t => .ok (.ret (.ref n))) 0 [] (fun n => [listO (sliceN (some (K + 2)) none (intV y.wl)) 0])), (1, .mov [2, 0] [((φ4 0 + 192), listO ((sliceN none (some place) (intV y.wl) ++ [Value.int (Int.ofNat (wk + wk1)) (φ0 1 + 2)] ++ sliceN (some place) (some K) (intV y.wl))) 0), ((φ4 0 + 194), listO ((sliceN (some (K + 2)) none (intV y.wl))) 0)] (bi "list.__add__" [.ref (φ4 0 + 192), .ref (φ4 0 + 194)]) (fun n t => .ok (.ret (.ref n))) 0 [] (fun n => [listO (((sliceN none (some place) (intV y.wl) ++ [.int (Int.ofNat (wk + wk1)) (φ0 1 + 2)]) ++ sliceN (some place) (some K) (intV y.wl)) ++ sliceN (some (K + 2)) none (intV y.wl)) 0])), (3, .mov [36, 0] [((z3.n + 210), rowO (z3.n + 209) (refV y.pre ++ Value.ref (y.a0 + 186) :: Value.ref (y.a1 + 186) :: refV y.post) y.rep), ((φ4 0 + 197), { cls := .type "slice", dict := none, data := .fields ⟨[.int (Int.ofNat K) (φ0 2), .none, .none]⟩ })] (lgi [.ref (z3.n + 210), .ref (φ4 0 + 197)]) (fun n t => .ok (.ret (.ref n))) 0 [] (fun n => [listO (.ref (y.a0 + 186) :: .ref (y.a1 + 186) :: refV y.post) 0])), (1, .mov [39, 0, 1] [((z3.n + 210), rowO (z3.n + 209) (refV y.pre ++ Value.ref (y.a0 + 186) :: Value.ref (y.a1 + 186) :: refV y.post) y.rep), ((φ4 0 + 200), { cls := .type "slice", dict := none, data := .fields ⟨[.int (Int.ofNat K) (φ0 2), .none, .none]⟩ }), ((φ4 0 + 199), listO [] 0)] (bi "list.__setitem__" [.ref (z3.n + 210), .ref (φ4 0 + 200), .ref (φ4 0 + 199)]) (fun n t => .ok (.ret (.none))) 0 [rowO (z3.n + 209) (refV y.pre) (y.rep + 1)] (fun n => [])), (3, .mov [41, 0] [((z3.n + 210), rowO (z3.n + 209) (refV y.pre) (y.rep + 1)), ((φ4 0 + 202), { cls := .type "slice", dict := none, data := .fields ⟨[.int (Int.ofNat place) (φ2 1), .none, .none]⟩ })] (lgi [.ref (z3.n + 210), .ref (φ4 0 + 202)]) (fun n t => .ok (.ret (.ref n))) 0 [] (fun n => [listO (refV (y.pre.drop place)) 0])), (1, .mov [44, 0, 1] [((z3.n + 210), rowO (z3.n + 209) (refV y.pre) (y.rep + 1)), ((φ4 0 + 205), { cls := .type "slice", dict := none, data := .fields ⟨[.int (Int.ofNat place) (φ2 1), .none, .none]⟩ }), ((φ4 0 + 204), listO [] 0)] (bi "list.__setitem__" [.ref (z3.n + 210), .ref (φ4 0 + 205), .ref (φ4 0 + 204)]) (fun n t => .ok (.ret (.none))) 0 [rowO (z3.n + 209) (refV (y.pre.take place)) (epOf y.pre.length (y.pre.take place).length (y.rep + 1))] (fun n => [])), (1, .ora [7] [((φ4 0 + 198), listO (.ref (y.a0 + 186) :: .ref (y.a1 + 186) :: (refV y.post)) 0)] (lgi [.ref (φ4 0 + 198), .int 0 (φ4 1 + 11)]) (fun t => Value.ref (y.a0 + 186)) 0), (4, .ora [7] [((φ4 0 + 198), listO (.ref (y.a0 + 186) :: .ref (y.a1 + 186) :: (refV y.post)) 0)] (lgi [.ref (φ4 0 + 198), .int 0 (φ4 1 + 13)]) (fun t => Value.ref (y.a0 + 186)) 0), (4, .ora [7] [((φ4 0 + 198), listO (.ref (y.a0 + 186) :: .ref (y.a1 + 186) :: (refV y.post)) 0)] (lgi [.ref (φ4 0 + 198), .int 1 (φ4 1 + 15)]) (fun t => Value.ref (y.a1 + 186)) 0), (4, .ora [] [] (bi "str.__add__" [.str (S y.y0) y.ty0, .str (S y.x1) y.tx1]) (fun t => Value.str (S (y.y0 ++ y.x1)) t) 1), (1, .ora [7] [((φ4 0 + 198), listO (.ref (y.a0 + 186) :: .ref (y.a1 + 186) :: (refV y.post)) 0)] (lgi [.ref (φ4 0 + 198), .int 1 (φ4 1 + 18)]) (fun t => Value.ref (y.a1 + 186)) 0), (4, .ora [] [] (bi "str.__add__" [.str (S (y.y0 ++ y.x1)) (φ4 1 + 17), .str (S y.y1) y.ty1]) (fun t => Value.str (S (y.y0 ++ y.x1 ++ y.y1)) t) 1), (3, .mov [46, 0] [((z3.n + 210), rowO (z3.n + 209) (refV (List.take place y.pre)) (epOf y.pre.length (List.take place y.pre).length (y.rep + 1))), ((φ4 0 + 207), tupO [.str (S y.x0) y.tx0, .str (S (y.y0 ++ y.x1 ++ y.y1)) (φ4 1 + 20)])] (bi "list.append" [.ref (z3.n + 210), .ref (φ4 0 + 207)]) (fun n t => .ok (.ret (.none))) 0 [rowO (z3.n + 209) (refV (y.pre.take place) ++ [.ref (φ4 0 + 207)]) ((epOf y.pre.length (y.pre.take place).length (y.rep + 1)) + 1)] (fun n => [])), (1, .ora [9] [((φ4 0 + 198), listO (.ref (y.a0 + 186) :: .ref (y.a1 + 186) :: (refV y.post)) 0)] (lgi [.ref (φ4 0 + 198), .int 0 (φ4 1 + 24)]) (fun t => Value.ref (y.a0 + 186)) 0), (4, .ora [9] [((φ4 0 + 198), listO (.ref (y.a0 + 186) :: .ref (y.a1 + 186) :: (refV y.post)) 0)] (lgi [.ref (φ4 0 + 198), .int 0 (φ4 1 + 26)]) (fun t => Value.ref (y.a0 + 186)) 0), (4, .ora [] [] (bi "str.__add__" [.str (S y.x0) y.tx0, .str (S y.y0) y.ty0]) (fun t => Value.str (S (y.x0 ++ y.y0)) t) 1), (1, .ora [9] [((φ4 0 + 198), listO (.ref (y.a0 + 186) :: .ref (y.a1 + 186) :: (refV y.post)) 0)] (lgi [.ref (φ4 0 + 198), .int 1 (φ4 1 + 29)]) (fun t => Value.ref (y.a1 + 186)) 0), (4, .ora [] [] (bi "str.__add__" [.str (S (y.x0 ++ y.y0)) (φ4 1 + 28), .str (S y.x1) y.tx1]) (fun t => Value.str (S (y.x0 ++ y.y0 ++ y.x1)) t) 1), (1, .ora [9] [((φ4 0 + 198), listO (.ref (y.a0 + 186) :: .ref (y.a1 + 186) :: (refV y.post)) 0)] (lgi [.ref (φ4 0 + 198), .int 1 (φ4 1 + 32)]) (fun t => Value.ref (y.a1 + 186)) 0), (4, .ora [] [] (bi "str.__add__" [.str (S (y.x0 ++ y.y0 ++ y.x1)) (φ4 1 + 31), .str (S y.y1) y.ty1]) (fun t => Value.str (S (y.x0 ++ y.y0 ++ y.x1 ++ y.y1)) t) 1), (20, .mov [22, 0] [((φ4 0 + 198), listO (.ref (y.a0 + 186) :: .ref (y.a1 + 186) :: (refV y.post)) 0), ((φ4 0 + 220), { cls := .type "slice", dict := none, data := .fields ⟨[.int 2 (φ4 1 + 53), .none, .none]⟩ })] (lgi [.ref (φ4 0 + 198), .ref (φ4 0 + 220)]) (fun n t => .ok (.ret (.ref n))) 0 [] (fun n => [listO (refV y.post) 0])), (1, .mov [18, 0] [((φ4 0 + 203), listO ((refV (List.drop place y.pre))) 0), ((φ4 0 + 221), listO ((refV y.post)) 0)] (bi "list.__add__" [.ref (φ4 0 + 203), .ref (φ4 0 + 221)]) (fun n t => .ok (.ret (.ref n))) 0 [] (fun n => [listO (refV (y.pre.drop place) ++ refV y.post) 0])), (2, .cut)]))]))]))]))]))]
noncomputable def tnB (w : World) (b lay : Bool) (z1 : Z1) (z2 : Z2) (z3 : Z3) (y : ZT) (zk : ZK) (j jl K place nl : Nat) (wk tk0 wk1 tk1 : Nat) (js : List Nat) (mx : Int) (kz : Bool) : RO :=
 run (V0 (wf w b)) 1233 ((dg 121 29983872493357411614117088079346918532607480073605567071341810968516749956936000021619764049327298591475391871455148921726954030227302852494276997095458632244722229618477695679222147537144733620374747169529165338423247118869242775711837475) ++ (c2L kz ++ (dg 442 30703751317896112213857111596620871329611264417708724214245313725815862571864382581401706872686208348574298698406852153614228062007789386949285115028220327785205190763912344299748354484731160756848162092700049058587355210516473730749480344086777109637304119510658442517743844960574413222732834275992520828292762861531962053277951206956273302578508558919496346281373674528495750112003880365943284174231606950166071931491866840092756853010343091095323191590413059263622278275066892554012089048976788924598212311588275615572875556858313830586310357784978428534021277484647322283340297913435833131668155189967913277027652290310605622376886856359868306680128179681200484706706491340205113634654279584907319163780184336649675110371490401423062015808116835804849031534739160468949121188049502570451765454761807370867494175648680366062016252186252543069978246965356265576456669720130))) (tnB_q w b lay z1 z2 z3 y zk j jl K place nl wk tk0 wk1 tk1 js mx kz) (forOf (lawStmt (wf w b).params 14) (y.it + 186) (lawEnv (wf w b).params z1.n)) none (.base) (denQ (forOf (lawStmt (wf w b).params 14) (y.it + 186) (lawEnv (wf w b).params z1.n))) ((z1.n + 186, lawB (wf w b) lay z1 z2 z3 18 y.kt y.kv (es1 (wf w b) y ++ [en (wf w b) c_kept y.k6 (.ref (y.ke + 186)), en (wf w b) c_turn y.k7 y.v7]) (es2 (wf w b) y)) :: (y.it + 186, rangeItO j (jl + 1)) :: (z1.n + 188, cellO (.ref (y.we + 186))) :: (z1.n + 189, cellO (.ref (y.de + 186))) :: (z1.n + 190, cellO y.bv) :: (y.we + 186, listO (intV y.wl) y.wep) :: (y.ke + 186, listO (intV y.kl) y.kep) :: (y.de + 186, listO (intV y.dl) y.d0) :: (z3.n + 210, rowO (z3.n + 209) (refV y.pre ++ (.ref (y.a0 + 186) :: .ref (y.a1 + 186) :: refV y.post)) y.rep) :: (z3.n + 209, dictO 1 [en (wf w b) c_iniize (z3.t + 46) (.int 0 286)]) :: (y.a0 + 186, tupO [.str (S y.x0) y.tx0, .str (S y.y0) y.ty0]) :: (y.a1 + 186, tupO [.str (S y.x1) y.tx1, .str (S y.y1) y.ty1]) :: (y.c1 + 186, codeO y.v0 y.q y.ctq y.rs) :: (158, tabO [.int 108 0, .int 4 0, .ref (y.c1 + 186), .int 112 0, .int 13 0, .ref (y.c2 + 186)]) :: (172, tabO [.int 125 0, .int 79 0, .ref (zk.c3 + 186)]) :: (zk.c3 + 186, codeO zk.w0 zk.wq zk.wtq zk.wrs) :: y.r) (y.n + 186) (y.t) [.finished, .finished] Acc.nil Acc.nil
noncomputable def lxtnB (w : World) (b lay : Bool) (z1 : Z1) (z2 : Z2) (z3 : Z3) (y : ZT) (zk : ZK) (j jl K place nl : Nat) (wk tk0 wk1 tk1 : Nat) (js : List Nat) (mx : Int) (kz : Bool) (ps0 : Nat → SX) : LX := { lx := ((SX.fresh (ps0 4)) 0) + 31, dx := ((SX.fresh (ps0 4)) 0) + 30, st := ((SX.fresh (ps0 4)) 0) + 28, sd := ((SX.fresh (ps0 4)) 0) + 29, rf := ((SX.fresh (ps0 4)) 0) + 27, cd := y.c1, tc := ((SX.fresh (ps0 4)) 0) + 23, ac := ((SX.fresh (ps0 4)) 0) + 24, al := ((SX.fresh (ps0 4)) 0) + 25, pb := ((SX.fresh (ps0 4)) 0) + 33, ct := ((SX.fresh (ps0 4)) 0) + 26, k1 := ((SX.fresh (ps0 4)) 1) + 44, k2 := ((SX.fresh (ps0 4)) 1) + 46, k3 := ((SX.fresh (ps0 4)) 1) + 49, k4 := ((SX.fresh (ps0 4)) 1) + 51, kw := ((SX.fresh (ps0 4)) 1) + 47, kr := ((SX.fresh (ps0 4)) 1) + 39, km := 370, tk := ((SX.fresh (ps0 4)) 1) + 34, tq := y.ctq, dt := obFd (((tnB w b lay z1 z2 z3 y zk j jl K place nl wk tk0 wk1 tk1 js mx kz).ats ps0 5).ob 9), v0 := y.v0, q := y.q, rest := y.rs, text := S (y.x0 ++ y.y0 ++ y.x1 ++ y.y1) }
section
variable {h₀ : HS} {w : World} {b : Bool} (O : (Bw w b h₀).Ok) {A₀ : Around} (hA : AOk A₀ 260) {R : Result → Shared → Prop} {dr : Drawn} {os : OsState} {h : Heap}
include O hA
theorem tnB_t {lay : Bool} {z1 : Z1} {z2 : Z2} {z3 : Z3} {y : ZT} {zk : ZK} {j jl K place nl : Nat} {wk tk0 wk1 tk1 : Nat} {js : List Nat} {mx : Int} {kz : Bool} (hsz : 186 ≤ h₀.h.objs.size) (hKd : gwK (y.wl.map (·.1)) y.wl.length 0 = K) (hwk : (intV y.wl)[K]? = some (.int (Int.ofNat wk) tk0)) (hwk1 : (intV y.wl)[K + 1]? = some (.int (Int.ofNat wk1) tk1)) (hK : K < 100) (hkl : (intV y.kl).length = y.ml) (hml : y.ml < 100) (hwl : y.wl.length < 100) (hjs : js.length < 100) (hmx : 1 + mx = Int.ofNat place) (hpre : y.pre.length = K) (hpost : y.post.length < 100)
 (hnl : nl = (y.kl ++ y.wl).length) (hnl' : (intV (y.kl ++ y.wl)).length = nl) (hnl2 : nl < 900) (hnl0 : y.ml + K < nl) (hres : bisF (fun i => decide (mxAt ((y.kl ++ y.wl).map (·.1)) i < wk + wk1)) (y.ml + K - y.ml) y.ml (y.ml + K) = y.ml + place) (hKw : K ≤ y.wl.length) (hkz : kz = decide (K = 0)) (hjd : gwJ (wk + wk1) ((y.wl.take K).map (·.1)) 0 = js) (hmx1 : mxJ js (-1) = mx)
 (hx0 : y.x0 ≠ []) (hy0 : y.y0 ≠ []) (hx1 : y.x1 ≠ []) (hy1 : y.y1 ≠ []) (lx0 : y.x0.length < 100) (ly0 : y.y0.length < 100) (lx1 : y.x1.length < 100) (ly1 : y.y1.length < 100) (S₀ : St (Bw w b h₀) h ((z1.n + 186, lawB (wf w b) lay z1 z2 z3 18 y.kt y.kv (es1 (wf w b) y ++ [en (wf w b) c_kept y.k6 (.ref (y.ke + 186)), en (wf w b) c_turn y.k7 y.v7]) (es2 (wf w b) y)) :: (y.it + 186, rangeItO j (jl + 1)) :: (z1.n + 188, cellO (.ref (y.we + 186))) :: (z1.n + 189, cellO (.ref (y.de + 186))) :: (z1.n + 190, cellO y.bv) :: (y.we + 186, listO (intV y.wl) y.wep) :: (y.ke + 186, listO (intV y.kl) y.kep) :: (y.de + 186, listO (intV y.dl) y.d0) :: (z3.n + 210, rowO (z3.n + 209) (refV y.pre ++ (.ref (y.a0 + 186) :: .ref (y.a1 + 186) :: refV y.post)) y.rep) :: (z3.n + 209, dictO 1 [en (wf w b) c_iniize (z3.t + 46) (.int 0 286)]) :: (y.a0 + 186, tupO [.str (S y.x0) y.tx0, .str (S y.y0) y.ty0]) :: (y.a1 + 186, tupO [.str (S y.x1) y.tx1, .str (S y.y1) y.ty1]) :: (y.c1 + 186, codeO y.v0 y.q y.ctq y.rs) :: (158, tabO [.int 108 0, .int 4 0, .ref (y.c1 + 186), .int 112 0, .int 13 0, .ref (y.c2 + 186)]) :: (172, tabO [.int 125 0, .int 79 0, .ref (zk.c3 + 186)]) :: (zk.c3 + 186, codeO zk.w0 zk.wq zk.wtq zk.wrs) :: y.r) (y.n + 186))
  (next : ∀ ps0 : Nat → SX, ∀ κ, κ = ktn w b z1.n y.it → depOk A₀ κ → κ.rlen = 1 → κ.len = 1 → ∀ h' t', St (Bw w b h₀) h' ((z1.n + 186, lawB (wf w b) lay z1 z2 z3 18 y.kt (.int (Int.ofNat K) ((SX.fresh (ps0 0)) 2)) [en (wf w b) c_white y.k1 ((y.v1)), en (wf w b) c_word y.k2 ((y.v2)), en (wf w b) c_lexer y.k3 ((y.v3)), en (wf w b) c_told y.k4 ((y.v4)), en (wf w b) c_name y.k5 ((y.v5)), en (wf w b) c_kept y.k6 (.ref ((SX.fresh (ps0 0)) 0 + 186)), en (wf w b) c_turn y.k7 (.int (Int.ofNat j) y.t)] [en (wf w b) [108, 111, 119] y.k8 (.int (Int.ofNat y.ml) ((SX.fresh (ps0 0)) 1 + 4)), en (wf w b) c_place y.k9 (.int (Int.ofNat place) ((SX.fresh (ps0 2)) 1)), en (wf w b) [111, 102, 102] y.k10 (.ref ((SX.fresh (ps0 4)) 0 + 198)), en (wf w b) c_moved y.k11 (.ref ((SX.fresh (ps0 4)) 0 + 203)), en (wf w b) c_reader y.k12 (.ref ((SX.fresh (ps0 4)) 0 + 217))]) :: (y.it + 186, rI (Int.ofNat (j + 1)) (Int.ofNat (jl + 1) - 1)) :: (z1.n + 188, cellO (.ref ((SX.fresh (ps0 4)) 0 + 195))) :: (z1.n + 189, cellO (.ref (y.de + 186))) :: (z1.n + 190, cellO (.int (Int.ofNat (wk + wk1)) ((SX.fresh (ps0 0)) 1 + 2))) :: ((SX.fresh (ps0 4)) 0 + 195, listO ((sliceN none (some place) (intV y.wl) ++ [Value.int (Int.ofNat (wk + wk1)) ((SX.fresh (ps0 0)) 1 + 2)] ++ sliceN (some place) (some K) (intV y.wl) ++ sliceN (some (K + 2)) none (intV y.wl))) 0) :: ((SX.fresh (ps0 0)) 0 + 186, listO ((intV (y.kl ++ y.wl))) 0) :: (y.de + 186, listO (intV y.dl) y.d0) :: (z3.n + 210, rowO (z3.n + 209) (refV (List.take place y.pre) ++ [Value.ref ((SX.fresh (ps0 4)) 0 + 207)]) (epOf y.pre.length (List.take place y.pre).length (y.rep + 1) + 1)) :: (z3.n + 209, dictO 1 [en (wf w b) c_iniize (z3.t + 46) (.int 0 286)]) :: ((SX.fresh (ps0 4)) 0 + 207, tupO [.str (S y.x0) y.tx0, .str (S (y.y0 ++ y.x1 ++ y.y1)) ((SX.fresh (ps0 4)) 1 + 20)]) :: ((SX.fresh (ps0 4)) 0 + 222, listO ((refV (List.drop place y.pre) ++ refV y.post)) 0) :: ((SX.fresh (ps0 4)) 0 + 223, { cls := .type "list_iterator", dict := none, data := .fields ⟨[.ref ((SX.fresh (ps0 4)) 0 + 222), .int 0 0]⟩ }) :: (lexLed (wf w b) (lxtnB w b lay z1 z2 z3 y zk j jl K place nl wk tk0 wk1 tk1 js mx kz ps0) 1 (((SX.fresh (ps0 4)) 1) + 42) 0 (((SX.fresh (ps0 4)) 1) + 35) [] 0 ++ (158, tabO [.int 108 0, .int 4 0, .ref (y.c1 + 186), .int 112 0, .int 13 0, .ref (y.c2 + 186)]) :: (172, tabO [.int 125 0, .int 79 0, .ref (zk.c3 + 186)]) :: (zk.c3 + 186, codeO zk.w0 zk.wq zk.wtq zk.wrs) :: y.r)) (((SX.fresh (ps0 4)) 0 + 224)) → cA w b (arnd A₀ κ) (forOf (tnStmt (wf w b).params 12) (((SX.fresh (ps0 4)) 0) + 37 + 186) (lawEnv (wf w b).params z1.n)) (endK (Bw w b h₀) A₀ R κ) (sh h' [.finished, .finished] dr t' os)) :
  cA w b A₀ (forOf (lawStmt (wf w b).params 14) (y.it + 186) (lawEnv (wf w b).params z1.n)) R (sh h [.finished, .finished] dr y.t os) := by
 have e0 := len_intV y.wl; have e1 := len_sliceN none (some place) (intV y.wl); have e2 := len_sliceN (some place) (some K) (intV y.wl); have e3 := len_sliceN (some (K + 2)) none (intV y.wl); have e4 := len_refV y.pre; have e5 := len_refV y.post; have e6 := len_refV (y.pre.drop place); have e7 := len_refV (y.pre.take place); simp only [List.length_drop, List.length_take] at e6 e7
 exact code_run (qs := (tnB_q w b lay z1 z2 z3 y zk j jl K place nl wk tk0 wk1 tk1 js mx kz)) O (hA.le (by lia))  (aC ⟨gap_wk O (hA.le (by lia)) (hA.le (by lia)) hsz (by decide) hwl hKd, fun φ => iO (ora_list_item _ _ _ _ _ _ hwk (by lia)) <| iO (ora_list_item _ _ _ _ _ _ hwk1 (by lia)) <| iO (ora_len_list' _ _ _ _ hkl (by lia)) <| iM (mov_list_add_eq _ _ _ _ _ _ _ (by simp only [len_intV] at *; lia) (intV_append _ _)) <| iO (ora_len_list' _ _ _ _ hnl' (by lia)) <| iM (mov_range_iter _ _ _ _ _ (by lia)) <| iG (gap_c4 O (hA.le (by lia)) hsz (by decide) (by lia) (by lia)) (fun φ => iO (ora_neg _ _ _ rfl) <| iG (gap_bi O (hA.le (by lia)) hsz (by decide) (by simp [frL]) hnl hnl2 hnl0 hres) (fun φ => iO (ora_sub _ _ _ _ _ (by first | lia | (simp; lia))) <| iM (mov_range_iter _ _ _ _ _ (by lia)) <| iG (gap_c2 O (hA.le (by lia)) (hA.le (by lia)) hsz (by decide) kz hKw hwl hkz hjd) (fun φ => iM (mov_list_add_eq _ _ [_] _ _ _ _ (by simp [intV, frL]; lia) (by rw [zW_intV]; rfl)) <| iG (gap_max O (hA.le (by lia)) hsz (by decide) (by rw [maxOf_zW _ _ _ (by simp [frL])]; exact hmx1)) (fun φ => iO (ora_add _ _ _ _ _ hmx) <| iO (ora_ne _ _ _ _ _ (by simp)) <| iM (mov_slice _ _ _ _ _ _ _ none (some place) rfl .none (.nat _ _) (by rw [len_intV]; lia)) <| iM (mov_list_add _ _ _ _ _ _ (by first | lia | (simp; lia))) <| iM (mov_slice _ _ _ _ _ _ _ (some place) (some K) rfl (.nat _ _) (.nat _ _) (by rw [len_intV]; lia)) <| iM (mov_list_add _ _ _ _ _ _ (by first | lia | (simp; lia))) <| iM (mov_slice _ _ _ _ _ _ _ (some (K + 2)) none rfl (.nat _ _) .none (by rw [len_intV]; lia)) <| iM (mov_list_add _ _ _ _ _ _ (by first | lia | (simp; lia))) <| iM (mov_slice_eq _ _ _ _ _ _ _ (some K) none _ rfl (.nat _ _) .none (by first | lia | (simp; lia)) (off_eq hpre)) <| iM (mov_setnil _ _ _ _ _ _ _ _ _ _ _ (by simp) (by first | lia | (simp; lia)) (tak_eq hpre) (by unfold epOf; simp [refV])) <| iM (mov_slice_eq _ _ _ _ _ _ _ (some place) none _ rfl (.nat _ _) .none (by first | lia | (simp; lia)) (mvd_eq _ _)) <| iM (mov_setnil _ _ _ _ _ _ _ _ _ _ _ (by simp) (by first | lia | (simp; lia)) (mvt_eq _ _) (by simp [refV])) <| iO (ora_list_item _ _ _ 0 _ _ rfl (by lia)) <| iO (ora_list_item _ _ _ 0 _ _ rfl (by lia)) <| iO (ora_list_item _ _ _ 1 _ _ rfl (by lia)) <| iO (ora_sadd _ _ _ _ (by simp [hx0, hx1, hy0, hy1]) (by simp [hx0, hx1, hy0, hy1]) (by first | lia | (simp; lia))) <| iO (ora_list_item _ _ _ 1 _ _ rfl (by lia)) <| iO (ora_sadd _ _ _ _ (by simp [hx0, hx1, hy0, hy1]) (by simp [hx0, hx1, hy0, hy1]) (by first | lia | (simp; lia))) <| iM (mov_append _ _ _ _ _ _ (by first | lia | (simp; lia))) <| iO (ora_list_item _ _ _ 0 _ _ rfl (by lia)) <| iO (ora_list_item _ _ _ 0 _ _ rfl (by lia)) <| iO (ora_sadd _ _ _ _ (by simp [hx0, hx1, hy0, hy1]) (by simp [hx0, hx1, hy0, hy1]) (by first | lia | (simp; lia))) <| iO (ora_list_item _ _ _ 1 _ _ rfl (by lia)) <| iO (ora_sadd _ _ _ _ (by simp [hx0, hx1, hy0, hy1]) (by simp [hx0, hx1, hy0, hy1]) (by first | lia | (simp; lia))) <| iO (ora_list_item _ _ _ 1 _ _ rfl (by lia)) <| iO (ora_sadd _ _ _ _ (by simp [hx0, hx1, hy0, hy1]) (by simp [hx0, hx1, hy0, hy1]) (by first | lia | (simp; lia))) <| iM (mov_slice_eq _ _ _ _ _ _ _ (some 2) none _ rfl (.nat 2 _) .none (by first | lia | (simp; lia)) rfl) <| iM (mov_list_add _ _ _ _ _ _ (by first | lia | (simp; lia))) <| iK <| iN) <| iN) <| iN) <| iN) <| iN⟩ <| aN) (FineS.ats (o := tnB w b lay z1 z2 z3 y zk j jl K place nl wk tk0 wk1 tk1 js mx kz) (m := 5) fun ps0 => (fine_cut (is := [54, 55, 56, 57, 58, 28, 53, 61, 62, 63, 16, 1, 0, 6, 7, 12, 4, 9, 8, 10, 66, 14, 13, 67, 68, 69]) (d := 70) (Vw.Is.eq (by refine Bool.rec (Bool.rec (Bool.rec ?_ ?_ kz) (Bool.rec ?_ ?_ kz) lay) (Bool.rec (Bool.rec ?_ ?_ kz) (Bool.rec ?_ ?_ kz) lay) b <;> and_intros <;> kernel_rfl)) rfl (next ps0 _ (rk_eq (by refine Bool.rec (Bool.rec (Bool.rec ?_ ?_ kz) (Bool.rec ?_ ?_ kz) lay) (Bool.rec (Bool.rec ?_ ?_ kz) (Bool.rec ?_ ?_ kz) lay) b <;> kernel_rfl))))) S₀
theorem tnBe_t {lay : Bool} {z1 : Z1} {z2 : Z2} {z3 : Z3} {y : ZT} {zk : ZK} {j jl K place nl : Nat} {wk tk0 wk1 tk1 : Nat} {js : List Nat} {mx : Int} {kz : Bool} {pz : Nat → SX} {u : ZU} {a1 a2 ln2 p2 ln3 p3 : Nat} {dl2 : List Nat} {κ : RK} (hκ : κ = ktn w b z1.n y.it) {ml : Nat} (hl : κ.rlen = ml + 1) (hd : depOk A₀ κ) (gT : ∀ (idx : List Nat), idx.Nodup → GapOk (Bw w b h₀) A₀ 3 idx (lexLed (wf w b) (lxtnB w b lay z1 z2 z3 y zk j jl K place nl wk tk0 wk1 tk1 js mx kz pz) 1 ((SX.fresh (pz 4)) 1 + 42) 0 ((SX.fresh (pz 4)) 1 + 35) [] 0) (Code.call (.ref 49) ⟨[.ref ((lxtnB w b lay z1 z2 z3 y zk j jl K place nl wk tk0 wk1 tk1 js mx kz pz).lx + 186)], []⟩) (fun φ => .ok (.ret (.str (S [a1 + 1, a2 + 1]) (φ 4)))) (fun φ => [instO 59 ((lxtnB w b lay z1 z2 z3 y zk j jl K place nl wk tk0 wk1 tk1 js mx kz pz).dx + 186), lexD (wf w b) (lxtnB w b lay z1 z2 z3 y zk j jl K place nl wk tk0 wk1 tk1 js mx kz pz) ln2 (φ 2), listO [.int (Int.ofNat p2) (φ 3)] 0]))
 (gL : ∀ (t0 t1 t2 : Nat) (idx : List Nat), idx.Nodup → GapOk (Bw w b h₀) A₀ 3 idx ((z1.n + 186, lawB (wf w b) lay z1 z2 z3 18 y.kt (.int (Int.ofNat K) ((SX.fresh (pz 0)) 2)) [en (wf w b) c_white y.k1 ((u.v1)), en (wf w b) c_word y.k2 ((u.v2)), en (wf w b) c_lexer y.k3 ((y.v3)), en (wf w b) c_told y.k4 ((y.v4)), en (wf w b) c_name y.k5 (.str (S [a1 + 1, a2 + 1]) t0), en (wf w b) c_kept y.k6 (.ref ((SX.fresh (pz 0)) 0 + 186)), en (wf w b) c_turn y.k7 (.int (Int.ofNat j) y.t)] [en (wf w b) [108, 111, 119] y.k8 (.int (Int.ofNat y.ml) ((SX.fresh (pz 0)) 1 + 4)), en (wf w b) c_place y.k9 (.int (Int.ofNat place) ((SX.fresh (pz 2)) 1)), en (wf w b) [111, 102, 102] y.k10 (.ref ((SX.fresh (pz 4)) 0 + 198)), en (wf w b) c_moved y.k11 (.ref ((SX.fresh (pz 4)) 0 + 203)), en (wf w b) c_reader y.k12 (.ref ((SX.fresh (pz 4)) 0 + 217))]) :: (z2.n + 186, namesO z2) :: (z1.n + 189, cellO (.ref (y.de + 186))) :: (y.de + 186, listO (intV y.dl) y.d0) :: lexLed (wf w b) (lxtnB w b lay z1 z2 z3 y zk j jl K place nl wk tk0 wk1 tk1 js mx kz pz) ln2 t1 p2 t2 [] 0) (whOf (tnStmt (wf w b).params 14) (lawEnv (wf w b).params z1.n)) (fun φ => .ok .next) (fun φ => [lawB (wf w b) lay z1 z2 z3 18 y.kt (.int (Int.ofNat K) ((SX.fresh (pz 0)) 2)) [en (wf w b) c_white y.k1 ((u.v1)), en (wf w b) c_word y.k2 ((u.v2)), en (wf w b) c_lexer y.k3 ((y.v3)), en (wf w b) c_told y.k4 ((y.v4)), en (wf w b) c_name y.k5 (.str (S []) (φ 2)), en (wf w b) c_kept y.k6 (.ref ((SX.fresh (pz 0)) 0 + 186)), en (wf w b) c_turn y.k7 (.int (Int.ofNat j) y.t)] [en (wf w b) [108, 111, 119] y.k8 (.int (Int.ofNat y.ml) ((SX.fresh (pz 0)) 1 + 4)), en (wf w b) c_place y.k9 (.int (Int.ofNat place) ((SX.fresh (pz 2)) 1)), en (wf w b) [111, 102, 102] y.k10 (.ref ((SX.fresh (pz 4)) 0 + 198)), en (wf w b) c_moved y.k11 (.ref ((SX.fresh (pz 4)) 0 + 203)), en (wf w b) c_reader y.k12 (.ref ((SX.fresh (pz 4)) 0 + 217))], namesO z2, cellO (.ref (y.de + 186)), listO (intV (dl2.zip (frL φ 6))) y.d0, instO 59 ((lxtnB w b lay z1 z2 z3 y zk j jl K place nl wk tk0 wk1 tk1 js mx kz pz).dx + 186), lexD (wf w b) (lxtnB w b lay z1 z2 z3 y zk j jl K place nl wk tk0 wk1 tk1 js mx kz pz) ln3 (φ 3), listO [.int (Int.ofNat p3) (φ 4)] 0])) (S₀ : St (Bw w b h₀) h ((z1.n + 186, lawB (wf w b) lay z1 z2 z3 18 y.kt (.int (Int.ofNat K) ((SX.fresh (pz 0)) 2)) [en (wf w b) c_white y.k1 ((u.v1)), en (wf w b) c_word y.k2 ((u.v2)), en (wf w b) c_lexer y.k3 ((y.v3)), en (wf w b) c_told y.k4 ((y.v4)), en (wf w b) c_name y.k5 ((y.v5)), en (wf w b) c_kept y.k6 (.ref ((SX.fresh (pz 0)) 0 + 186)), en (wf w b) c_turn y.k7 (.int (Int.ofNat j) y.t)] [en (wf w b) [108, 111, 119] y.k8 (.int (Int.ofNat y.ml) ((SX.fresh (pz 0)) 1 + 4)), en (wf w b) c_place y.k9 (.int (Int.ofNat place) ((SX.fresh (pz 2)) 1)), en (wf w b) [111, 102, 102] y.k10 (.ref ((SX.fresh (pz 4)) 0 + 198)), en (wf w b) c_moved y.k11 (.ref ((SX.fresh (pz 4)) 0 + 203)), en (wf w b) c_reader y.k12 (.ref ((SX.fresh (pz 4)) 0 + 217))]) :: (lexLed (wf w b) (lxtnB w b lay z1 z2 z3 y zk j jl K place nl wk tk0 wk1 tk1 js mx kz pz) 1 ((SX.fresh (pz 4)) 1 + 42) 0 ((SX.fresh (pz 4)) 1 + 35) [] 0 ++ (z2.n + 186, namesO z2) :: (z1.n + 189, cellO (.ref (y.de + 186))) :: (y.de + 186, listO (intV y.dl) y.d0) :: u.r)) (u.n + 186))
  (next : ∀ ps0 : Nat → SX, ∀ h' t', St (Bw w b h₀) h' ((z1.n + 186, lawB (wf w b) lay z1 z2 z3 18 y.kt (.int (Int.ofNat K) ((SX.fresh (pz 0)) 2)) [en (wf w b) c_white y.k1 ((u.v1)), en (wf w b) c_word y.k2 ((u.v2)), en (wf w b) c_lexer y.k3 ((y.v3)), en (wf w b) c_told y.k4 ((y.v4)), en (wf w b) c_name y.k5 (.str (S []) ((SX.fresh (ps0 1)) 2)), en (wf w b) c_kept y.k6 (.ref ((pz 0).snd.2 0 + 186)), en (wf w b) c_turn y.k7 (.int (Int.ofNat j) y.t)] [en (wf w b) [108, 111, 119] y.k8 (.int (Int.ofNat y.ml) ((pz 0).snd.2 1 + 4)), en (wf w b) c_place y.k9 (.int (Int.ofNat place) ((pz 2).snd.2 1)), en (wf w b) [111, 102, 102] y.k10 (.ref ((pz 4).snd.2 0 + 198)), en (wf w b) c_moved y.k11 (.ref ((pz 4).snd.2 0 + 203)), en (wf w b) c_reader y.k12 (.ref ((pz 4).snd.2 0 + 217))]) :: (lexLed (wf w b) (lxtnB w b lay z1 z2 z3 y zk j jl K place nl wk tk0 wk1 tk1 js mx kz pz) ln3 ((SX.fresh (ps0 1)) 3) p3 ((SX.fresh (ps0 1)) 4) [] 0 ++ (y.de + 186, listO ((intV (dl2.zip (frL (SX.fresh (ps0 1)) 6)))) y.d0) :: (z2.n + 186, namesO z2) :: (z1.n + 189, cellO (.ref (y.de + 186))) :: u.r)) (((SX.fresh (ps0 1)) 0 + 186)) → cA w b A₀ (forOf (lawStmt (wf w b).params 14) (y.it + 186) (lawEnv (wf w b).params z1.n)) R (sh h' [.finished, .finished] dr t' os)) :
  endK (Bw w b h₀) A₀ R κ (.ok .next) (sh h [.finished, .finished] dr u.t os) := by
 exact rest_run (f := 39) (ls := (dg 19 969252632536463508050029287961371938)) (qs := [(0, .gap 3 [1, 2, 3, 4, 5, 6, 7, 8, 9, 10] (lexLed (wf w b) (lxtnB w b lay z1 z2 z3 y zk j jl K place nl wk tk0 wk1 tk1 js mx kz pz) 1 ((SX.fresh (pz 4)) 1 + 42) 0 ((SX.fresh (pz 4)) 1 + 35) [] 0) (.call (.ref 49) ⟨[.ref ((pz 4).snd.2 0 + 217)], []⟩) (fun φ => .ok (.ret (.str (S [a1 + 1, a2 + 1]) (φ 4)))) (fun φ => [instO 59 ((lxtnB w b lay z1 z2 z3 y zk j jl K place nl wk tk0 wk1 tk1 js mx kz pz).dx + 186), lexD (wf w b) (lxtnB w b lay z1 z2 z3 y zk j jl K place nl wk tk0 wk1 tk1 js mx kz pz) ln2 (φ 2), listO [.int (Int.ofNat p2) (φ 3)] 0]) (fun φ0 => [(0, .gap 3 [0, 11, 12, 13, 1, 2, 3, 4, 5, 6, 7, 8, 9, 10] ((z1.n + 186, lawB (wf w b) lay z1 z2 z3 18 y.kt (.int (Int.ofNat K) ((SX.fresh (pz 0)) 2)) [en (wf w b) c_white y.k1 ((u.v1)), en (wf w b) c_word y.k2 ((u.v2)), en (wf w b) c_lexer y.k3 ((y.v3)), en (wf w b) c_told y.k4 ((y.v4)), en (wf w b) c_name y.k5 (.str (S [a1 + 1, a2 + 1]) (φ0 4)), en (wf w b) c_kept y.k6 (.ref ((SX.fresh (pz 0)) 0 + 186)), en (wf w b) c_turn y.k7 (.int (Int.ofNat j) y.t)] [en (wf w b) [108, 111, 119] y.k8 (.int (Int.ofNat y.ml) ((SX.fresh (pz 0)) 1 + 4)), en (wf w b) c_place y.k9 (.int (Int.ofNat place) ((SX.fresh (pz 2)) 1)), en (wf w b) [111, 102, 102] y.k10 (.ref ((SX.fresh (pz 4)) 0 + 198)), en (wf w b) c_moved y.k11 (.ref ((SX.fresh (pz 4)) 0 + 203)), en (wf w b) c_reader y.k12 (.ref ((SX.fresh (pz 4)) 0 + 217))]) :: (z2.n + 186, namesO z2) :: (z1.n + 189, cellO (.ref (y.de + 186))) :: (y.de + 186, listO (intV y.dl) y.d0) :: lexLed (wf w b) (lxtnB w b lay z1 z2 z3 y zk j jl K place nl wk tk0 wk1 tk1 js mx kz pz) ln2 (φ0 2) p2 (φ0 3) [] 0) (whOf (tnStmt (wf w b).params 14) (lawEnv (wf w b).params z1.n)) (fun φ => .ok .next) (fun φ => [lawB (wf w b) lay z1 z2 z3 18 y.kt (.int (Int.ofNat K) ((SX.fresh (pz 0)) 2)) [en (wf w b) c_white y.k1 ((u.v1)), en (wf w b) c_word y.k2 ((u.v2)), en (wf w b) c_lexer y.k3 ((y.v3)), en (wf w b) c_told y.k4 ((y.v4)), en (wf w b) c_name y.k5 (.str (S []) (φ 2)), en (wf w b) c_kept y.k6 (.ref ((SX.fresh (pz 0)) 0 + 186)), en (wf w b) c_turn y.k7 (.int (Int.ofNat j) y.t)] [en (wf w b) [108, 111, 119] y.k8 (.int (Int.ofNat y.ml) ((SX.fresh (pz 0)) 1 + 4)), en (wf w b) c_place y.k9 (.int (Int.ofNat place) ((SX.fresh (pz 2)) 1)), en (wf w b) [111, 102, 102] y.k10 (.ref ((SX.fresh (pz 4)) 0 + 198)), en (wf w b) c_moved y.k11 (.ref ((SX.fresh (pz 4)) 0 + 203)), en (wf w b) c_reader y.k12 (.ref ((SX.fresh (pz 4)) 0 + 217))], namesO z2, cellO (.ref (y.de + 186)), listO (intV (dl2.zip (frL φ 6))) y.d0, instO 59 ((lxtnB w b lay z1 z2 z3 y zk j jl K place nl wk tk0 wk1 tk1 js mx kz pz).dx + 186), lexD (wf w b) (lxtnB w b lay z1 z2 z3 y zk j jl K place nl wk tk0 wk1 tk1 js mx kz pz) ln3 (φ 3), listO [.int (Int.ofNat p3) (φ 4)] 0]) (fun φ1 => [(0, .cut)]))]))]) O (hA.le (by lia)) hκ hl hd (aC ⟨gT _ (by decide), fun φ => iG (gL _ _ _ _ (by decide)) (fun φ => iK <| iN) <| iN⟩ <| aN) (FineS.ats (m := 2) fun ps0 => (fine_loop (is := [0, 1, 2, 3, 4, 5, 6, 7, 8, 9, 10, 13, 11, 12]) (d := 14) (Vw.Is.eq (by refine Bool.rec (Bool.rec (Bool.rec ?_ ?_ kz) (Bool.rec ?_ ?_ kz) lay) (Bool.rec (Bool.rec ?_ ?_ kz) (Bool.rec ?_ ?_ kz) lay) b <;> and_intros <;> kernel_rfl)) rfl (next ps0))) S₀
end
structure ZF where
 (ep kt q1 q2 q3 q4 q5 q6 q7 : Nat)
 (kv v3 v4 v6 v7 : Value)
 e2 : List DictEntry
noncomputable def lawF (w : World) (lay : Bool) (z1 : Z1) (z2 : Z2) (z3 : Z3) (f : ZF) (v1 v2 v5 : Value) : Obj := lawB w lay z1 z2 z3 f.ep f.kt f.kv [en w c_white f.q1 v1, en w c_word f.q2 v2, en w c_lexer f.q3 f.v3, en w c_told f.q4 f.v4, en w c_name f.q5 v5, en w c_kept f.q6 f.v6, en w c_turn f.q7 f.v7] f.e2
section
variable {h₀ : HS} {w : World} {b : Bool} (O : (Bw w b h₀).Ok) {A₀ : Around} (hA : AOk A₀ 140) {R : Result → Shared → Prop} {dr : Drawn} {os : OsState} {h : Heap}
include O hA
theorem puT_t {lay : Bool} {z1 : Z1} {z2 : Z2} {z3 : Z3} {f : ZF} {n t it l i ai tx ty rep lep : Nat} {v1 v2 v5 : Value} {x yy : List Nat} {rs ls : List Value} {r : Led} {gl : List GenState} (hx : ls[i]? = some (.ref (ai + 186))) (hz : rs.length < 1000) (S₀ : St (Bw w b h₀) h ((z1.n + 186, lawF (wf w b) lay z1 z2 z3 f (v1) (v2) (v5)) :: (it + 186, liO (l + 186) i) :: (l + 186, listO ls lep) :: (z3.n + 210, rowO (z3.n + 209) rs rep) :: (z3.n + 209, dictO 1 [en (wf w b) c_iniize (z3.t + 46) (.int 0 286)]) :: (ai + 186, tupO [.str (S x) tx, .str (S yy) ty]) :: r) (n + 186))
  (next : ∀ h' t', St (Bw w b h₀) h' ((z1.n + 186, lawF (wf w b) lay z1 z2 z3 f (.str (S x) tx) (.str (S yy) ty) (v5)) :: (it + 186, lI (l + 186) (Int.ofNat (i + 1))) :: (l + 186, listO ls lep) :: (z3.n + 210, rowO (z3.n + 209) (rs ++ [Value.ref (n + 4 + 186)]) (rep + 1)) :: (z3.n + 209, dictO 1 [en (wf w b) c_iniize (z3.t + 46) (.int 0 286)]) :: (n + 190, tupO [.str (S x) tx, .str (S yy) ty]) :: r) ((n + 191)) → cA w b A₀ (forOf (tnStmt (wf w b).params 12) (it + 186) (lawEnv (wf w b).params z1.n)) R (sh h' gl dr t' os)) :
  cA w b A₀ (forOf (tnStmt (wf w b).params 12) (it + 186) (lawEnv (wf w b).params z1.n)) R (sh h gl dr t os) := by
 exact code_run (f := 150) (ls := (dg 81 421521333343211587736613878651973748415664996925712774498885513851917757577283919485465259022053100875383372963048371968954459467520048230551355164382131580195)) (qs := [(1, .mov [1, 2] [((it + 186), lI (l + 186) (Int.ofNat i)), ((l + 186), listO ((ls)) lep)] (bi "list_iterator.__next__" [.ref (it + 186)]) (fun n t => .ok (.ret (.ref (ai + 186)))) 0 [liO (l + 186) (i + 1)] (fun n => [])), (11, .mov [8, 0] [((z3.n + 210), rowO (z3.n + 209) rs rep), ((n + 190), tupO [.str (S x) tx, .str (S yy) ty])] (bi "list.append" [.ref (z3.n + 210), .ref (n + 190)]) (fun n t => .ok (.ret (.none))) 0 [rowO (z3.n + 209) (rs ++ [Value.ref (n + 4 + 186)]) (rep + 1)] (fun n => [])), (0, .cut)]) O hA  (aC (mov_li_next _ _ _ _ _ _ _ rfl hx) <| aC (mov_append _ _ _ _ _ _ hz) <| aC trivial <| aN) (fine_loop (is := [5, 6, 7, 8, 9, 0]) (d := 11) (Vw.Is.eq (by refine Bool.rec (Bool.rec ?_ ?_ lay) (Bool.rec ?_ ?_ lay) b <;> and_intros <;> kernel_rfl)) rfl (next)) S₀
theorem puZ_t {lay : Bool} {z1 : Z1} {z2 : Z2} {z3 : Z3} {f : ZF} {n t it l i ai tx ty rep lep : Nat} {v1 v2 v5 : Value} {x yy : List Nat} {rs ls : List Value} {r : Led} {gl : List GenState} (hx : ls[i]? = none) (S₀ : St (Bw w b h₀) h ((it + 186, liO (l + 186) i) :: (l + 186, listO ls lep) :: r) (n + 186))
  (next : ∀ h' t', St (Bw w b h₀) h' (r) ((n + 188)) → R (.ok PySem.Flow.next) (sh h' gl dr t' os)) :
  cA w b A₀ (forOf (tnStmt (wf w b).params 12) (it + 186) (lawEnv (wf w b).params z1.n)) R (sh h gl dr t os) := by
 exact code_run (f := 13) (ls := [1, 1, 1]) (qs := [(1, .mov [0, 1] [((it + 186), lI (l + 186) (Int.ofNat i)), ((l + 186), listO ((ls)) lep)] (bi "list_iterator.__next__" [.ref (it + 186)]) (fun n t => .error (.ref (n + 1))) 0 [liE i] (fun n => [tupO [], stopO n]))]) O hA  (aC (mov_li_end _ _ _ _ _ _ rfl hx) <| aN) (fine_done (is := []) (d := 4) (Vw.Is.eq (by refine Bool.rec ?_ ?_ b <;> and_intros <;> kernel_rfl)) rfl (next)) S₀
end
structure Pc where
 (a tx ty : Nat)
 (x y : List Nat)
noncomputable def Pc.led (p : Pc) : Addr × Obj := (p.a + 186, tupO [.str (S p.x) p.tx, .str (S p.y) p.ty])
noncomputable def Pc.xy (p : Pc) : List Nat × List Nat := (p.x, p.y)
section
variable {h₀ : HS} {w : World} {b lay : Bool} {z1 : Z1} {z2 : Z2} {z3 : Z3} {f : ZF} (O : (Bw w b h₀).Ok) {A₀ : Around} (hA : AOk A₀ 140) {R : Result → Shared → Prop} {dr : Drawn} {os : OsState} {it l lep : Nat} {v5 : Value} {ls : List Value} {gl : List GenState}
noncomputable def rowDO (w : World) (z3 : Z3) : Obj := dictO 1 [en w c_iniize (z3.t + 46) (.int 0 286)]
include O hA
theorem pu_run : ∀ (rest : List Pc) (i n t rep : Nat) (v1 v2 : Value) (rs : List Value) (r : Led) (h : Heap), ls.drop i = refV (rest.map (·.a)) → rs.length + rest.length < 1000 →
  St (Bw w b h₀) h ((z1.n + 186, lawF (wf w b) lay z1 z2 z3 f v1 v2 v5) :: (it + 186, liO (l + 186) i) :: (l + 186, listO ls lep) :: (z3.n + 210, rowO (z3.n + 209) rs rep) :: (z3.n + 209, rowDO (wf w b) z3) :: (rest.map Pc.led ++ r)) (n + 186) →
  (∀ (h' : Heap) (n' t' : Nat) (v1' v2' : Value) (news : List Pc) (rep' : Nat), news.map Pc.xy = rest.map Pc.xy → St (Bw w b h₀) h' ((z1.n + 186, lawF (wf w b) lay z1 z2 z3 f v1' v2' v5) :: (z3.n + 210, rowO (z3.n + 209) (rs ++ refV (news.map (·.a))) rep') :: (z3.n + 209, rowDO (wf w b) z3) :: (news.map Pc.led ++ r)) (n' + 186) → R (.ok .next) (sh h' gl dr t' os)) →
  cA w b A₀ (forOf (tnStmt (wf w b).params 12) (it + 186) (lawEnv (wf w b).params z1.n)) R (sh h gl dr t os)
 | [], i, n, t, rep, v1, v2, rs, r, h, hd, hz, S, next => by
  have hx : ls[i]? = none := by
   have : ls.length ≤ i := by simpa [refV] using hd
   simpa using this
  have S2 : St (Bw w b h₀) h ((it + 186, liO (l + 186) i) :: (l + 186, listO ls lep) :: (z1.n + 186, lawF (wf w b) lay z1 z2 z3 f v1 v2 v5) :: (z3.n + 210, rowO (z3.n + 209) rs rep) :: (z3.n + 209, rowDO (wf w b) z3) :: r) (n + 186) :=
   S.perm (List.perm_middle (l₁ := [(it + 186, liO (l + 186) i), (l + 186, listO ls lep)]))
  refine puZ_t (lay := lay) (z2 := z2) (z3 := z3) (f := f) (ai := 0) (tx := 0) (ty := 0) (rep := 0) (v1 := .none) (v2 := .none) (v5 := .none) (x := []) (yy := []) (rs := []) O hA hx S2 fun h' t' S' => ?_
  have e : rs ++ refV (([] : List Pc).map (·.a)) = rs := by simp [refV]
  exact next h' (n + 2) t' v1 v2 [] rep rfl (by rw [e]; exact S')
 | p :: rest, i, n, t, rep, v1, v2, rs, r, h, hd, hz, S, next => by
  obtain ⟨hx, hd'⟩ := drop_cons_get (show ls.drop i = .ref (p.a + 186) :: refV (rest.map (·.a)) from hd)
  refine puT_t (x := p.x) (yy := p.y) (tx := p.tx) (ty := p.ty) O hA hx (by simp at hz; lia) S fun h' t' S' => ?_
  have S2 : St (Bw w b h₀) h' ((z1.n + 186, lawF (wf w b) lay z1 z2 z3 f (.str (Mine.S p.x) p.tx) (.str (Mine.S p.y) p.ty) v5) :: (it + 186, liO (l + 186) (i + 1)) :: (l + 186, listO ls lep) :: (z3.n + 210, rowO (z3.n + 209) (rs ++ [.ref (n + 4 + 186)]) (rep + 1)) :: (z3.n + 209, rowDO (wf w b) z3) :: (rest.map Pc.led ++ ((⟨n + 4, p.tx, p.ty, p.x, p.y⟩ : Pc).led :: r))) (n + 5 + 186) :=
   S'.perm ((List.perm_middle (l₁ := rest.map Pc.led)).cons _ |>.cons _ |>.cons _ |>.cons _ |>.cons _)
  refine pu_run rest (i + 1) _ _ _ _ _ _ _ _ hd' (by simp at hz ⊢; lia) S2 fun h' n' t' v1' v2' news rep' hn S3 => ?_
  refine next h' n' t' v1' v2' (⟨n + 4, p.tx, p.ty, p.x, p.y⟩ :: news) rep' (by simp [Pc.xy, hn]) ?_
  have e : rs ++ [.ref (n + 4 + 186)] ++ refV (news.map (·.a)) = rs ++ refV (((⟨n + 4, p.tx, p.ty, p.x, p.y⟩ : Pc) :: news).map (·.a)) := by simp [refV]
  rw [← e]
  exact S3.perm ((List.perm_middle (l₁ := news.map Pc.led)).symm.cons _ |>.cons _ |>.cons _)
end
theorem mov_setitem {V : RV} (l : Addr) (vs : List Value) (ep i u : Nat) (x : Value) {idx : List Nat} {rest : Led} (hi : i < vs.length) (hz : vs.length < 1000) :
  MovOk V idx ((l, listO vs ep) :: rest) (bi "list.__setitem__" [.ref l, .int (Int.ofNat i) u, x]) (fun _ _ => .ok (.ret .none)) 0 [listO (vs.set i x) ep] fun _ => [] := by
 refine mov_tree (by decide +kernel) F.entry_list_setitem fun B hB A h gl dr t' os R lg n hpk hA S next => ?_
 have ho := S.led _ (pick_mem (by rw [hpk]; exact .head _))
 have hb := big1000
 have hf : Builtin.List.listFitsIndex (Int.ofNat i) = true := fitsIndex_of (k := Int.ofNat i) (by simp) (by simp; lia)
 obtain ⟨k, hk⟩ : ∃ k : Int, k = Int.ofNat i := ⟨_, rfl⟩
 rw [← hk] at hf ⊢
 show wpAny _ _ (Builtin.List.listSubscript? (.int k u) >>= _) _ _ _
 refine wpAny_bind (wpAny_listSubscript_int hf ?_)
 subst hk
 have hx' : (⟨vs⟩ : Array Value)[i]? = some vs[i] := by simp
 show wpAny _ _ ((seqItemAt l i >>= fun r => pure (r.map (i, ·))) >>= _) _ _ _
 refine wpAny_bind (wpAny_bind (wpAny_seqItemAt ho rfl (wpAny_pure ?_)))
 rw [hx']
 show wpAny _ _ (setSeqItemAt l i x >>= _) _ _ _
 refine wpAny_bind (wpAny_setSeqItemAt ho rfl ?_)
 have fin := next _ (upd_next S hpk (f := Obj.mapSeq (·.setIfInBounds i x)) (by
  have := mapSeq_eq (.type "list") none vs ep (·.setIfInBounds i x) (vs.set i x) (by simp)
  have he : epOf vs.length (vs.set i x).length ep = ep := by unfold epOf; simp
  rw [he] at this
  exact this) rfl)
 first
  | exact wpAny_bind (wpAny_pure (wpAny_pure fin))
  | exact wpAny_pure fin
theorem mov_setitem_eq {V : RV} (l : Addr) (vs rs : List Value) (ep i u : Nat) (x : Value) {idx : List Nat} {rest : Led} (hi : i < vs.length) (hz : vs.length < 1000) (h : vs.set i x = rs) :
  MovOk V idx ((l, listO vs ep) :: rest) (bi "list.__setitem__" [.ref l, .int (Int.ofNat i) u, x]) (fun _ _ => .ok (.ret .none)) 0 [listO rs ep] fun _ => [] := by
 subst h
 exact mov_setitem l vs ep i u x hi hz
structure ZG where
 (q8 q9 q10 q11 q12 : Nat)
 (v8 v9 v10 v11 : Value)
noncomputable def rdE (w : World) (X : LX) (g : ZG) : List DictEntry := [en w [108, 111, 119] g.q8 g.v8, en w c_place g.q9 g.v9, en w [111, 102, 102] g.q10 g.v10, en w c_moved g.q11 g.v11, en w c_reader g.q12 (.ref (X.lx + 186))]
noncomputable def nmsL (z2 : Z2) : List (Str × Tok) := [(S [34, 97], z2.t), (S [92, 98], z2.t + 1), (S [35, 99], z2.t + 2), (S [10, 100], z2.t + 3), (S [9, 101], z2.t + 4), (S [32, 102], z2.t + 5)]
section
variable {h₀ : HS} {w : World} {b : Bool} (O : (Bw w b h₀).Ok) {A₀ : Around} (hA : AOk A₀ 200) {R : Result → Shared → Prop} {dr : Drawn} {os : OsState} {h : Heap}
include O hA
theorem rdT_t {lay : Bool} {z1 : Z1} {z2 : Z2} {z3 : Z3} {f : ZF} {X : LX} {n t t5 de d0 dv dt i ln tl p tp ln2 p2 : Nat} {v1 v2 : Value} {c1 c2 : Nat} {nx : List Nat} {dl : PL} {g : ZG} {r : Led} {gl : List GenState} (hi : i < (nmsL z2).length) (hnm : (nmsL z2)[i].1 = S [c1 + 1, c2 + 1]) (hno : ∀ m (hm : m < (nmsL z2).length), m < i → (nmsL z2)[m].1 ≠ S [c1 + 1, c2 + 1]) (hdv : (intV dl)[i]? = some (.int (Int.ofNat dv) dt)) (hi2 : i < (intV dl).length) (hdl : dl.length < 100) (hi3 : i < 100) (gG : ∀ (idx : List Nat), idx.Nodup → GapOk (Bw w b h₀) A₀ 3 idx (lexLed (wf w b) X ln tl p tp [] 0) (Code.call (.ref 49) ⟨[.ref (X.lx + 186)], []⟩) (fun φ => .ok (.ret (.str (S nx) (φ 4)))) (fun φ => [instO 59 (X.dx + 186), lexD (wf w b) X ln2 (φ 2), listO [.int (Int.ofNat p2) (φ 3)] 0])) (S₀ : St (Bw w b h₀) h ((z1.n + 186, lawF (wf w b) lay z1 z2 z3 { f with e2 := rdE (wf w b) X g } (v1) (v2) (.str (S [c1 + 1, c2 + 1]) t5)) :: (z2.n + 186, namesO z2) :: (z1.n + 189, cellO (.ref (de + 186))) :: (de + 186, listO (intV dl) d0) :: (lexLed (wf w b) X ln tl p tp [] 0 ++ r)) (n + 186))
  (next : ∀ ps0 : Nat → SX, ∀ h' t', St (Bw w b h₀) h' ((z1.n + 186, lawF (wf w b) lay z1 z2 z3 { f with e2 := rdE (wf w b) X g } (v1) (v2) (.str (S nx) ((SX.fresh (ps0 0)) 4))) :: (z2.n + 186, namesO z2) :: (z1.n + 189, cellO (.ref (de + 186))) :: (de + 186, listO ((intV (List.set dl i (dv + 1, t + 3)))) d0) :: (lexLed (wf w b) X ln2 ((SX.fresh (ps0 0)) 2) p2 ((SX.fresh (ps0 0)) 3) [] 0 ++ r)) (((SX.fresh (ps0 0)) 0 + 186)) → cA w b A₀ (whOf (tnStmt (wf w b).params 14) (lawEnv (wf w b).params z1.n)) R (sh h' gl dr t' os)) :
  cA w b A₀ (whOf (tnStmt (wf w b).params 14) (lawEnv (wf w b).params z1.n)) R (sh h gl dr t os) := by
 exact code_run (f := 99) (ls := (dg 43 363870894558103762732540163520593463847081102690685155395540399573430947417201101186)) (qs := [(3, .ora [1] [((z2.n + 186), listO [.str (S [34, 97]) z2.t, .str (S [92, 98]) (z2.t + 1), .str (S [35, 99]) (z2.t + 2), .str (S [10, 100]) (z2.t + 3), .str (S [9, 101]) (z2.t + 4), .str (S [32, 102]) (z2.t + 5)] 0)] (bi "list.index" [.ref (z2.n + 186), .str (S [c1 + 1, c2 + 1]) t5]) (fun t => Value.int (Int.ofNat i) t) 1), (1, .ora [3] [((de + 186), listO ((intV dl)) d0)] (lgi [.ref (de + 186), .int (Int.ofNat i) (t + 1)]) (fun t => Value.int (Int.ofNat dv) dt) 0), (3, .ora [1] [((z2.n + 186), listO [.str (S [34, 97]) z2.t, .str (S [92, 98]) (z2.t + 1), .str (S [35, 99]) (z2.t + 2), .str (S [10, 100]) (z2.t + 3), .str (S [9, 101]) (z2.t + 4), .str (S [32, 102]) (z2.t + 5)] 0)] (bi "list.index" [.ref (z2.n + 186), .str (S [c1 + 1, c2 + 1]) t5]) (fun t => Value.int (Int.ofNat i) t) 1), (1, .mov [3] [((de + 186), listO ((intV dl)) d0)] (bi "list.__setitem__" [.ref (de + 186), .int (Int.ofNat i) (t + 4), .int (Int.ofNat (dv + 1)) (t + 3)]) (fun n t => .ok (.ret (.none))) 0 [listO (intV (dl.set i (dv + 1, t + 3))) d0] (fun n => [])), (0, .gap 3 [4, 5, 6, 7, 8, 9, 10, 11, 12, 13] (lexLed (wf w b) X ln tl p tp [] 0) (.call (.ref 49) ⟨[.ref (X.lx + 186)], []⟩) (fun φ => .ok (.ret (.str (S nx) (φ 4)))) (fun φ => [instO 59 (X.dx + 186), lexD (wf w b) X ln2 (φ 2), listO [.int (Int.ofNat p2) (φ 3)] 0]) (fun φ0 => [(0, .cut)]))]) O (hA.le (by lia))  (aC (ora_list_index _ (nmsL z2) _ _ _ _ hi (by simp [nmsL] at hi; lia) hnm hno) <| aC (ora_list_item _ _ _ _ _ _ hdv (by lia)) <| aC (ora_list_index _ (nmsL z2) _ _ _ _ hi (by simp [nmsL] at hi; lia) hnm hno) <| aC (mov_setitem_eq _ _ _ _ _ _ _ hi2 (by rw [len_intV]; lia) (by simp [intV, List.map_set])) <| aC ⟨gG _ (by decide), fun φ => iK <| iN⟩ <| aN) (FineS.ats (m := 1) fun ps0 => (fine_loop (is := [0, 1, 2, 3, 4, 5, 6, 7, 8, 9, 10, 11, 12, 13]) (d := 14) (Vw.Is.eq (by refine Bool.rec (Bool.rec ?_ ?_ lay) (Bool.rec ?_ ?_ lay) b <;> and_intros <;> kernel_rfl)) rfl (next ps0))) S₀
end
section
variable {h₀ : HS} {w : World} {b : Bool} (O : (Bw w b h₀).Ok) {A₀ : Around} (hA : AOk A₀ 140) {R : Result → Shared → Prop} {dr : Drawn} {os : OsState} {h : Heap}
include O hA
theorem rdZ_t {lay : Bool} {z1 : Z1} {z2 : Z2} {z3 : Z3} {f : ZF} {X : LX} {n t t5 de d0 dv dt i ln tl p tp ln2 p2 : Nat} {v1 v2 : Value} {c1 c2 : Nat} {nx : List Nat} {dl : PL} {g : ZG} {r : Led} {gl : List GenState} (S₀ : St (Bw w b h₀) h ((z1.n + 186, lawF (wf w b) lay z1 z2 z3 { f with e2 := rdE (wf w b) X g } (v1) (v2) (.str (S []) t5)) :: r) (n + 186))
  (next : ∀ h' t', St (Bw w b h₀) h' ((z1.n + 186, lawF (wf w b) lay z1 z2 z3 { f with e2 := rdE (wf w b) X g } (v1) (v2) (.str (S []) t5)) :: r) ((n + 186)) → R (.ok PySem.Flow.next) (sh h' gl dr t' os)) :
  cA w b A₀ (whOf (tnStmt (wf w b).params 14) (lawEnv (wf w b).params z1.n)) R (sh h gl dr t os) := by
 exact code_run (f := 14) (ls := [1]) (qs := []) O hA  aN (fine_done (is := [0]) (d := 1) (Vw.Is.eq (by refine Bool.rec (Bool.rec ?_ ?_ lay) (Bool.rec ?_ ?_ lay) b <;> and_intros <;> kernel_rfl)) rfl (next)) S₀
end
structure Z7 where
 (n t de d0 ti tv : Nat)
 f : ZF
 g : ZG
 (v1 v2 v5 v12 : Value)
 (wl dl : List (Nat × Nat))
 r : Led
noncomputable def e2g (w : World) (g : ZG) (v12 : Value) : List DictEntry := [en w [108, 111, 119] g.q8 g.v8, en w c_place g.q9 g.v9, en w [111, 102, 102] g.q10 g.v10, en w c_moved g.q11 g.v11, en w c_reader g.q12 v12]
noncomputable def lawG (w : World) (lay : Bool) (z1 : Z1) (z2 : Z2) (z3 : Z3) (y : Z7) (ep : Nat) (es : List DictEntry) : Obj := lawB w lay z1 z2 z3 ep y.f.kt y.f.kv [en w c_white y.f.q1 y.v1, en w c_word y.f.q2 y.v2, en w c_lexer y.f.q3 y.f.v3, en w c_told y.f.q4 y.f.v4, en w c_name y.f.q5 y.v5, en w c_kept y.f.q6 y.f.v6, en w c_turn y.f.q7 y.f.v7] (e2g w y.g y.v12 ++ es)
noncomputable def c3E (P : Params) : Expr := exArg 0 (exArg 0 (exCmpL (some (exIf (lawStmt P 15)))))
noncomputable def c3 (P : Params) (it acc loc fr cd cw : Addr) : Code := lcOf P (exArg 0 (exCmpL (some (exIf (lawStmt P 15))))) it acc loc 185 fr [(S [100, 114, 97, 119, 110], cd), (S [100, 101, 112, 116, 104, 115], cw)] lawQual
structure Z8 where
 (n t tq : Nat)
 r : Led
theorem ora_mul (a b c : Int) (t u : Tok) (h : a * b = c) (hm : IntMulOk a b) {prog : Program} {w : World} : OraOk prog w [] (bi "int.__mul__" [.int a t, .int b u]) (fun t => .int c t) 1 := by
 subst h; exact ora_int (by decide +kernel) F.entry_int_mul (gives_int_mul a b t u hm)
section
variable {h₀ : HS} {w : World} {b : Bool} (O : (Bw w b h₀).Ok) {A₀ : Around} (hA : AOk A₀ 140) {R : Result → Shared → Prop} {dr : Drawn} {os : OsState} {h : Heap}
include O hA
theorem c3A_t {it acc loc fr cd cw dw n t j q ep kk jp tp wj tj dj sj pj : Nat} {y : Z7} {vs : List Value} {r : Led} {gl : List GenState} (hw : (intV y.wl)[j]? = some (.int (Int.ofNat wj) tj)) (hd : (intV y.dl)[j]? = some (.int (Int.ofNat dj) sj)) (hj : j < 100) (hp : wj * dj = pj) (hm : IntMulOk (Int.ofNat wj) (Int.ofNat dj)) (hz : vs.length < 1000) (S₀ : St (Bw w b h₀) h ((it + 186, rangeItO j (q + 1)) :: (acc + 186, listO vs ep) :: (loc + 186, dictO 0 []) :: (cd + 186, cellO (.ref (dw + 186))) :: (dw + 186, listO (intV y.wl) 6) :: (cw + 186, cellO (.ref (y.de + 186))) :: (y.de + 186, listO (intV y.dl) y.d0) :: r) (n + 186))
  (next : ∀ h' t', St (Bw w b h₀) h' ((it + 186, rI (Int.ofNat (j + 1)) (Int.ofNat (q + 1) - 1)) :: (acc + 186, listO ((vs ++ [Value.int (Int.ofNat pj) (t + 2)])) (ep + 1)) :: (loc + 186, dictO 1 [en (wf w b) [107] (t + 1) (.int (Int.ofNat j) t)]) :: (cd + 186, cellO (.ref (dw + 186))) :: (dw + 186, listO (intV y.wl) 6) :: (cw + 186, cellO (.ref (y.de + 186))) :: (y.de + 186, listO (intV y.dl) y.d0) :: r) ((n + 186)) → cA w b A₀ (c3 (wf w b).params (it + 186) (acc + 186) (loc + 186) (fr + 186) (cd + 186) (cw + 186)) R (sh h' gl dr t' os)) :
  cA w b A₀ (c3 (wf w b).params (it + 186) (acc + 186) (loc + 186) (fr + 186) (cd + 186) (cw + 186)) R (sh h gl dr t os) := by
 exact code_run (f := 55) (ls := (dg 24 12060973823848525816503761653490819978372008130)) (qs := [(3, .ora [4] [((dw + 186), listO ((intV y.wl)) 6)] (lgi [.ref (dw + 186), .int (Int.ofNat j) t]) (fun t => Value.int (Int.ofNat wj) tj) 0), (1, .ora [6] [((y.de + 186), listO ((intV y.dl)) y.d0)] (lgi [.ref (y.de + 186), .int (Int.ofNat j) t]) (fun t => Value.int (Int.ofNat dj) sj) 0), (1, .ora [] [] (bi "int.__mul__" [.int (Int.ofNat wj) tj, .int (Int.ofNat dj) sj]) (fun t => Value.int (Int.ofNat pj) t) 1), (1, .mov [1] [((acc + 186), listO ((vs)) ep)] (bi "list.append" [.ref (acc + 186), .int (Int.ofNat pj) (t + 2)]) (fun n t => .ok (.ret (.none))) 0 [listO (vs ++ [Value.int (Int.ofNat pj) (t + 2)]) (ep + 1)] (fun n => [])), (0, .cut)]) O hA  (aC (ora_list_item _ _ _ _ _ _ hw (by lia)) <| aC (ora_list_item _ _ _ _ _ _ hd (by lia)) <| aC (ora_mul _ _ _ _ _ (by rw [← hp]; simp) hm) <| aC (mov_append _ _ _ _ _ _ hz) <| aC trivial <| aN) (fine_loop (is := [0, 1, 2, 3, 4, 5, 6]) (d := 7) (Vw.Is.eq (by refine Bool.rec ?_ ?_ b <;> and_intros <;> kernel_rfl)) rfl (next)) S₀
theorem c3B_t {it acc loc fr cd cw dw n t j q ep kk jp tp wj tj dj sj pj : Nat} {y : Z7} {vs : List Value} {r : Led} {gl : List GenState} (hw : (intV y.wl)[j]? = some (.int (Int.ofNat wj) tj)) (hd : (intV y.dl)[j]? = some (.int (Int.ofNat dj) sj)) (hj : j < 100) (hp : wj * dj = pj) (hm : IntMulOk (Int.ofNat wj) (Int.ofNat dj)) (hz : vs.length < 1000) (S₀ : St (Bw w b h₀) h ((it + 186, rangeItO j (q + 1)) :: (acc + 186, listO vs ep) :: (loc + 186, dictO 1 [en (wf w b) [107] kk (.int (Int.ofNat jp) tp)]) :: (cd + 186, cellO (.ref (dw + 186))) :: (dw + 186, listO (intV y.wl) 6) :: (cw + 186, cellO (.ref (y.de + 186))) :: (y.de + 186, listO (intV y.dl) y.d0) :: r) (n + 186))
  (next : ∀ h' t', St (Bw w b h₀) h' ((it + 186, rI (Int.ofNat (j + 1)) (Int.ofNat (q + 1) - 1)) :: (acc + 186, listO ((vs ++ [Value.int (Int.ofNat pj) (t + 2)])) (ep + 1)) :: (loc + 186, dictO 1 [en (wf w b) [107] kk (.int (Int.ofNat j) t)]) :: (cd + 186, cellO (.ref (dw + 186))) :: (dw + 186, listO (intV y.wl) 6) :: (cw + 186, cellO (.ref (y.de + 186))) :: (y.de + 186, listO (intV y.dl) y.d0) :: r) ((n + 186)) → cA w b A₀ (c3 (wf w b).params (it + 186) (acc + 186) (loc + 186) (fr + 186) (cd + 186) (cw + 186)) R (sh h' gl dr t' os)) :
  cA w b A₀ (c3 (wf w b).params (it + 186) (acc + 186) (loc + 186) (fr + 186) (cd + 186) (cw + 186)) R (sh h gl dr t os) := by
 exact code_run (f := 55) (ls := (dg 24 12060973823848525816503761653490819978372008130)) (qs := [(3, .ora [4] [((dw + 186), listO ((intV y.wl)) 6)] (lgi [.ref (dw + 186), .int (Int.ofNat j) t]) (fun t => Value.int (Int.ofNat wj) tj) 0), (1, .ora [6] [((y.de + 186), listO ((intV y.dl)) y.d0)] (lgi [.ref (y.de + 186), .int (Int.ofNat j) t]) (fun t => Value.int (Int.ofNat dj) sj) 0), (1, .ora [] [] (bi "int.__mul__" [.int (Int.ofNat wj) tj, .int (Int.ofNat dj) sj]) (fun t => Value.int (Int.ofNat pj) t) 1), (1, .mov [1] [((acc + 186), listO ((vs)) ep)] (bi "list.append" [.ref (acc + 186), .int (Int.ofNat pj) (t + 2)]) (fun n t => .ok (.ret (.none))) 0 [listO (vs ++ [Value.int (Int.ofNat pj) (t + 2)]) (ep + 1)] (fun n => [])), (0, .cut)]) O hA  (aC (ora_list_item _ _ _ _ _ _ hw (by lia)) <| aC (ora_list_item _ _ _ _ _ _ hd (by lia)) <| aC (ora_mul _ _ _ _ _ (by rw [← hp]; simp) hm) <| aC (mov_append _ _ _ _ _ _ hz) <| aC trivial <| aN) (fine_loop (is := [0, 1, 2, 3, 4, 5, 6]) (d := 7) (Vw.Is.eq (by refine Bool.rec ?_ ?_ b <;> and_intros <;> kernel_rfl)) rfl (next)) S₀
theorem c3Z_t {it acc loc fr cd cw dw n t j q ep kk jp tp wj tj dj sj pj : Nat} {y : Z7} {vs : List Value} {r : Led} {gl : List GenState} (S₀ : St (Bw w b h₀) h ((it + 186, rangeItO j 0) :: r) (n + 186))
  (next : ∀ h' t', St (Bw w b h₀) h' ((it + 186, rangeItO j 0) :: r) ((n + 188)) → R (.ok PySem.Flow.next) (sh h' gl dr t' os)) :
  cA w b A₀ (c3 (wf w b).params (it + 186) (acc + 186) (loc + 186) (fr + 186) (cd + 186) (cw + 186)) R (sh h gl dr t os) := by
 exact code_run (f := 20) (ls := [1, 1, 1, 1, 1, 1]) (qs := []) O hA  aN (fine_done (is := [2]) (d := 3) (Vw.Is.eq (by refine Bool.rec ?_ ?_ b <;> and_intros <;> kernel_rfl)) rfl (next)) S₀
end
theorem mulOk {a b : Nat} (h : a < 1000) : IntMulOk (Int.ofNat a) (Int.ofNat b) := by
 apply IntMulOk.of_left
 have : ∀ x : Nat, x < 1000 → Builtin.Int.intBits (Int.ofNat x) ≤ 64 := by
  intro x hx
  unfold Builtin.Int.intBits
  have : (Int.ofNat x).natAbs = x := rfl
  have hl : x.log2 < 10 := by
   rcases Nat.eq_zero_or_pos x with h | h
   ·subst h; decide
   ·exact (Nat.log2_lt (by lia)).mpr (by lia)
  first
   | (simp only [this]; lia)
   | (simp only [this]; split <;> lia)
   | (simp; lia)
 exact this a h
section
variable {h₀ : HS} {w : World} {b : Bool} (O : (Bw w b h₀).Ok) {A₀ : Around} (hA : AOk A₀ 140) {R : Result → Shared → Prop} {dr : Drawn} {os : OsState} {it acc loc fr cd cw dw : Nat} {y : Z7} {r : Led} {gl : List GenState}
noncomputable def prodL (wl dl : List (Nat × Nat)) : List Nat := List.zipWith (fun p q => p.1 * q.1) wl dl
include O hA
theorem c3_run : ∀ (wr dr' : List (Nat × Nat)) (j n t ep kk tp jp : Nat) (vs : List Value) (h : Heap), y.wl.drop j = wr → y.dl.drop j = dr' → wr.length = dr'.length → j + wr.length < 100 → vs.length + wr.length < 1000 → (∀ p ∈ wr, p.1 < 1000) →
  St (Bw w b h₀) h ((it + 186, rangeItO j wr.length) :: (acc + 186, listO vs ep) :: (loc + 186, dictO 1 [en (wf w b) [107] kk (.int (Int.ofNat jp) tp)]) :: (cd + 186, cellO (.ref (dw + 186))) :: (dw + 186, listO (intV y.wl) 6) :: (cw + 186, cellO (.ref (y.de + 186))) :: (y.de + 186, listO (intV y.dl) y.d0) :: r) (n + 186) →
  (∀ h' n' t' l ep' kk' jp' tp', l.length = wr.length → St (Bw w b h₀) h' ((it + 186, rangeItO (j + wr.length) 0) :: (acc + 186, listO (vs ++ intV ((prodL wr dr').zip l)) ep') :: (loc + 186, dictO 1 [en (wf w b) [107] kk' (.int (Int.ofNat jp') tp')]) :: (cd + 186, cellO (.ref (dw + 186))) :: (dw + 186, listO (intV y.wl) 6) :: (cw + 186, cellO (.ref (y.de + 186))) :: (y.de + 186, listO (intV y.dl) y.d0) :: r) (n' + 186) → R (.ok .next) (sh h' gl dr t' os)) →
  cA w b A₀ (c3 (wf w b).params (it + 186) (acc + 186) (loc + 186) (fr + 186) (cd + 186) (cw + 186)) R (sh h gl dr t os)
 | [], _, j, n, t, ep, kk, tp, jp, vs, h, hw, hd, hl, hj, hz, hb, S, next => by
  refine c3Z_t (q := 0) (ep := 0) (kk := 0) (jp := 0) (tp := 0) (wj := 0) (tj := 0) (dj := 0) (sj := 0) (pj := 0) (dw := dw) (y := y) (vs := []) (acc := acc) (loc := loc) (fr := fr) O hA S fun h' t' S' => ?_
  have e : ∀ x, vs ++ intV ((prodL [] x).zip []) = vs := by simp [intV]
  exact next h' (n + 2) t' [] ep kk jp tp rfl (by rw [e]; exact S')
 | p :: wr, [], j, n, t, ep, kk, tp, jp, vs, h, hw, hd, hl, hj, hz, hb, S, next => by simp at hl
 | p :: wr, q :: dr', j, n, t, ep, kk, tp, jp, vs, h, hw, hd, hl, hj, hz, hb, S, next => by
  obtain ⟨hx, hw'⟩ := drop_cons_get hw
  obtain ⟨hy, hd'⟩ := drop_cons_get hd
  simp only [List.length_cons] at hj hz S
  refine c3B_t (wj := p.1) (dj := q.1) O hA (intV_get hx) (intV_get hy) (by lia) rfl (mulOk (hb p (.head _))) (by lia) S fun h' t' S' => ?_
  rw [rIt] at S'
  refine c3_run wr dr' (j + 1) _ _ _ _ _ _ _ _ hw' hd' (by simpa using hl) (by lia) (by simp; lia) (fun x hx => hb x (.tail _ hx)) S' fun h' n' t' l ep' kk' jp' tp' hl S2 => next h' n' t' ((t + 2) :: l) ep' kk' jp' tp' (by simp [hl]) ?_
  have e2 : j + (wr.length + 1) = j + 1 + wr.length := by lia
  rw [List.length_cons, e2]
  simpa [intV, prodL] using S2
end
section
variable {h₀ : HS} {w : World} {b : Bool} (O : (Bw w b h₀).Ok) {A₀ : Around} (hA : AOk A₀ 200) {R : Result → Shared → Prop} {dr : Drawn} {os : OsState} {h : Heap}
include O hA
theorem L7_t {lay : Bool} {z1 : Z1} {z2 : Z2} {z3 : Z3} {z7 : Z7} {sm : Nat} {κ : RK} (hκ : κ = kt6 w b z1.n) {ml : Nat} (hl : κ.rlen = ml + 1) (hd : depOk A₀ κ) (gC : ∀ (idx : List Nat), idx.Nodup → GapOk (Bw w b h₀) A₀ 3 idx ([(z7.n + 1 + 186, rangeItO 0 6), (z7.n + 2 + 186, listO [] 0), (z7.n + 3 + 186, dictO 0 []), (z1.n + 1 + 186, cellO (.ref (z3.n + 1 + 186))), (z3.n + 1 + 186, listO (intV z7.wl) 6), (z1.n + 3 + 186, cellO (.ref (z7.de + 186))), (z7.de + 186, listO (intV z7.dl) z7.d0)]) (c3 (wf w b).params (z7.n + 1 + 186) (z7.n + 2 + 186) (z7.n + 3 + 186) (z1.n + 186) (z1.n + 1 + 186) (z1.n + 3 + 186)) (fun φ => .ok .next) (fun φ => [rangeItO 6 0, listO (intV ((prodL z7.wl z7.dl).zip (frL φ 6))) (φ 2), dictO 1 [en (wf w b) [107] (φ 3) (.int (Int.ofNat (φ 4)) (φ 5))]]))
 (gS : ∀ (l : List Nat) (q : Nat) (idx : List Nat), l.length = 6 → idx.Nodup → GapOk (Bw w b h₀) A₀ 3 idx [(z7.n + 2 + 186, listO (intV ((prodL z7.wl z7.dl).zip l)) q)] (bi "sum" [.ref (z7.n + 2 + 186)]) (fun φ => .ok (.ret (.int (Int.ofNat sm) (φ 2)))) (fun _ => []))
 (gL : ∀ (idx : List Nat), idx.Nodup → GapOk (Bw w b h₀) A₀ 3 idx [(z3.n + 1 + 186, listO (intV z7.wl) 6)] (Code.call (.ref 180) ⟨[.ref (z3.n + 1 + 186)], []⟩) (fun φ => .ok (.ret (.int (Int.ofNat sm) (φ 2)))) (fun _ => [])) (S₀ : St (Bw w b h₀) h ((z1.n + 186, lawG (wf w b) lay z1 z2 z3 z7 18 []) :: (z1.n + 1 + 186, cellO (.ref (z3.n + 1 + 186))) :: (z3.n + 1 + 186, listO (intV z7.wl) 6) :: (z1.n + 3 + 186, cellO (.ref (z7.de + 186))) :: (z7.de + 186, listO (intV z7.dl) z7.d0) :: z7.r) (z7.n + 186))
  (next : ∀ ps0 : Nat → SX, ∀ κ, κ = kt7 w b z1.n → depOk A₀ κ → κ.rlen = 1 → κ.len = 1 → ∀ h' t', St (Bw w b h₀) h' ((z1.n + 186, lawG (wf w b) lay z1 z2 z3 z7 19 [en (wf w b) c_pile ((SX.fresh (ps0 2)) 1 + 5) (.ref ((SX.fresh (ps0 2)) 0 + 187))]) :: ((SX.fresh (ps0 2)) 0 + 191, lI (z7.de + 186) 0) :: (z7.de + 186, listO (intV z7.dl) z7.d0) :: ((SX.fresh (ps0 2)) 0 + 187, rowQ ((SX.fresh (ps0 2)) 0 + 186) [] 0) :: ((SX.fresh (ps0 2)) 0 + 186, dictO 1 [en (wf w b) c_iniize ((SX.fresh (ps0 2)) 1 + 3) (.int 0 286)]) :: z7.r) (((SX.fresh (ps0 2)) 0 + 192)) → cA w b (arnd A₀ κ) (forOf (lawStmt (wf w b).params 17) ((SX.fresh (ps0 2)) 0 + 5 + 186) (lawEnv (wf w b).params z1.n)) (endK (Bw w b h₀) A₀ R κ) (sh h' [.finished, .finished] dr t' os)) :
  endK (Bw w b h₀) A₀ R κ (.ok .next) (sh h [.finished, .finished] dr z7.t os) := by
 exact rest_run (f := 245) (ls := (dg 121 16090821534525600808645288391334370291921692712100393394507161060783513070835047820469943149415174925704473571489457974768983578213940866205819257400267033844167712919730539475905047337851007062050749936525616504047783984619125839445730401)) (qs := [(9, .gap 3 [2, 1, 0, 5, 6, 7, 8] ([(z7.n + 1 + 186, rangeItO 0 6), (z7.n + 2 + 186, listO [] 0), (z7.n + 3 + 186, dictO 0 []), (z1.n + 1 + 186, cellO (.ref (z3.n + 1 + 186))), (z3.n + 1 + 186, listO (intV z7.wl) 6), (z1.n + 3 + 186, cellO (.ref (z7.de + 186))), (z7.de + 186, listO (intV z7.dl) z7.d0)]) (c3 (wf w b).params (z7.n + 1 + 186) (z7.n + 2 + 186) (z7.n + 3 + 186) (z1.n + 186) (z1.n + 1 + 186) (z1.n + 3 + 186)) (fun φ => .ok .next) (fun φ => [rangeItO 6 0, listO (intV ((prodL z7.wl z7.dl).zip (frL φ 6))) (φ 2), dictO 1 [en (wf w b) [107] (φ 3) (.int (Int.ofNat (φ 4)) (φ 5))]]) (fun φ0 => [(1, .gap 3 [1] ([(z7.n + 2 + 186, listO (intV ((prodL z7.wl z7.dl).zip (frL φ0 6))) (φ0 2))]) (bi "sum" [.ref (z7.n + 188)]) (fun φ => .ok (.ret (.int (Int.ofNat sm) (φ 2)))) (fun φ => []) (fun φ1 => [(0, .gap 3 [6] ([(z3.n + 1 + 186, listO (intV z7.wl) 6)]) (.call (.ref 180) ⟨[.ref (z3.n + 187)], []⟩) (fun φ => .ok (.ret (.int (Int.ofNat sm) (φ 2)))) (fun φ => []) (fun φ2 => [(1, .ora [] [] (bi "int.__ne__" [.int (Int.ofNat sm) (φ1 2), .int (Int.ofNat sm) (φ2 2)]) (fun t => Value.bool false) 0), (23, .cut)]))]))]))]) O (hA.le (by lia)) hκ hl hd (aC ⟨gC _ (by decide), fun φ => iG (gS _ _ _ (by simp [frL]) (by decide)) (fun φ => iG (gL _ (by decide)) (fun φ => iO (ora_ne _ _ _ _ _ (by simp)) <| iK <| iN) <| iN) <| iN⟩ <| aN) (FineS.ats (m := 4) fun ps0 => (fine_cut (is := [10, 0, 14, 4, 5]) (d := 15) (Vw.Is.eq (by refine Bool.rec (Bool.rec ?_ ?_ lay) (Bool.rec ?_ ?_ lay) b <;> and_intros <;> kernel_rfl)) rfl (next ps0 _ (rk_eq (by refine Bool.rec (Bool.rec ?_ ?_ lay) (Bool.rec ?_ ?_ lay) b <;> kernel_rfl))))) S₀
end
section
variable {h₀ : HS} {w : World} {b : Bool} (O : (Bw w b h₀).Ok) {A₀ : Around} (hA : AOk A₀ 140) {R : Result → Shared → Prop} {dr : Drawn} {os : OsState} {h : Heap}
include O hA
theorem L8_t {lay : Bool} {z1 : Z1} {z2 : Z2} {z3 : Z3} {z7 : Z7} {z8 : Z8} {pk q1 q2 q3 pa pd pe tp : Nat} {vd vo vb : Value} {κ : RK} (hκ : κ = kt7 w b z1.n) {ml : Nat} (hl : κ.rlen = ml + 1) (hd : depOk A₀ κ)  (S₀ : St (Bw w b h₀) h ((z1.n + 186, lawG (wf w b) lay z1 z2 z3 z7 22 [en (wf w b) c_pile pk (.ref (pa + 186)), en (wf w b) c_depth q1 (vd), en (wf w b) [111, 110, 101] q2 (vo), en (wf w b) c_below q3 (vb)]) :: (pa + 186, rowQ (pd + 186) [.ref (tp + 186)] pe) :: z8.r) (z8.n + 186))
  (next : ∀ κ, κ = kt8 w b z1.n (pa + 186) → depOk A₀ κ → κ.rlen = 3 → κ.len = 3 → ∀ h' t', St (Bw w b h₀) h' ((pa + 186, rowQ (pd + 186) [.ref (tp + 186)] pe) :: z8.r) ((z8.n + 186)) → cA w b (arnd A₀ κ) (Code.call (.ref 126) ⟨[.ref (pa + 186)], []⟩) (endK (Bw w b h₀) A₀ R κ) (sh h' [.finished, .finished] dr t' os)) :
  endK (Bw w b h₀) A₀ R κ (.ok .next) (sh h [.finished, .finished] dr z8.t os) := by
 exact rest_run (f := 22) (ls := [0, 0, 1, 2, 0, 0, 0, 0]) (qs := [(4, .cut)]) O hA hκ hl hd (aC trivial <| aN) (fine_cut (is := [1]) (d := 2) (Vw.Is.eq (by refine Bool.rec (Bool.rec ?_ ?_ lay) (Bool.rec ?_ ?_ lay) b <;> and_intros <;> kernel_rfl)) rfl (next _ (rk_eq (by refine Bool.rec (Bool.rec ?_ ?_ lay) (Bool.rec ?_ ?_ lay) b <;> kernel_rfl)))) S₀
theorem L9_t {z1 : Z1} {pa : Nat} {z9 : Z8} {κ : RK} (hκ : κ = kt8 w b z1.n (pa + 186)) {ml : Nat} (hl : κ.rlen = ml + 1) (hd : depOk A₀ κ)  (S₀ : St (Bw w b h₀) h (z9.r) (z9.n + 186))
  (next : ∀ h' t', St (Bw w b h₀) h' (z9.r) ((z9.n + 186)) → R (.ok (.ret (.bool true))) (sh h' [.finished, .finished, .finished] dr t' os)) :
  endK (Bw w b h₀) A₀ R κ (.ok (.ret (.str (S [46]) z9.tq))) (sh h [.finished, .finished, .finished] dr z9.t os) := by
 exact rest_run (f := 17) (ls := []) (qs := [(3, .ora [] [] (bi "str.__eq__" [.str (S [46]) z9.tq, .str (S [46]) z9.t]) (fun t => Value.bool true) 0)]) O hA hκ hl hd (aC (ora_str_eq _ _ _ _ _ rfl) <| aN) (fine_done (is := []) (d := 0) (Vw.Is.eq (by refine Bool.rec ?_ ?_ b <;> and_intros <;> kernel_rfl)) rfl (next)) S₀
end
noncomputable def ncs : Nat → List Nat
 | 0 => [34, 97]
 | 1 => [92, 98]
 | 2 => [35, 99]
 | 3 => [10, 100]
 | 4 => [9, 101]
 | _ => [32, 102]
noncomputable def wQ : Nat → List Nat
 | 0 => [34, 92, 34, 97, 34]
 | 1 => [34, 92, 92, 98, 34]
 | k + 2 => 34 :: (ncs (k + 2) ++ [34])
noncomputable def pcsL (k : Nat) (p : Nat → Nat) : List Value := (List.range k).map fun i => .ref (p i + 186)
noncomputable def pcF (w : World) (k nu na pc k1 k2 k3 k4 k5 k6 : Nat) (kq kw kd : Value) : Obj := match k with
 | 0 => frameO 3 [en w c_numers k1 (.ref (nu + 186)), en w c_names k2 (.ref (na + 186)), en w c_pieces k3 (.ref (pc + 186))]
 | _ + 1 => frameO 6 [en w c_numers k1 (.ref (nu + 186)), en w c_names k2 (.ref (na + 186)), en w c_pieces k3 (.ref (pc + 186)), en w [107] k4 kq, en w c_white k5 kw, en w c_word k6 kd]
noncomputable def tlq (k na nae t tn : Nat) (nas : List Value) : List (Nat × Act) := match k with
 | 0 => [(10, .cut)]
 | 1 => [(10, .cut)]
 | k + 2 => [(5, .ora [4] [((na + 186), listO ((nas)) nae)] (lgi [.ref (na + 186), .int (Int.ofNat (k + 2)) t]) (fun t => Value.str (S (ncs (k + 2))) tn) 0), (6, .cut)]
theorem tlq_ok {w : World} {b : Bool} {h₀ : HS} {A₀ : Around} {k na nae t tn : Nat} {nas : List Value} (hk : k < 6) (hna : nas[k]? = some (.str (S (ncs k)) tn)) : ∀ q ∈ tlq k na nae t tn nas, ActOk (Bw w b h₀) A₀ q.2 := by
 match k, hk, hna with
 | 0, _, _ => exact aC trivial aN
 | 1, _, _ => exact aC trivial aN
 | k + 2, hk, hna => exact aC (ora_list_item _ _ _ _ _ _ hna (by lia)) <| aC trivial aN
noncomputable def P0_q (w : World) (b : Bool) (nu na ne nae n t : Nat) (ns nas : List Value) (r : Led) (gl : List GenState) : List (Nat × Act) := [(9, .cut)]
noncomputable def P0 (w : World) (b : Bool) (nu na ne nae n t : Nat) (ns nas : List Value) (r : Led) (gl : List GenState) : RO :=
 run (V0 (wf w b)) 67 (dg 22 857577774870025611649699222972828705572961) (P0_q w b nu na ne nae n t ns nas r gl) (Code.call (.ref 170) ⟨[.ref (nu + 186), .ref (na + 186)], []⟩) none (.base) (denQ (Code.call (.ref 170) ⟨[.ref (nu + 186), .ref (na + 186)], []⟩)) ((nu + 186, listO ns ne) :: (na + 186, listO nas nae) :: r) (n + 186) (t) gl Acc.nil Acc.nil
section
variable {h₀ : HS} {w : World} {b : Bool} (O : (Bw w b h₀).Ok) {A₀ : Around} (hA : AOk A₀ 140) {R : Result → Shared → Prop} {dr : Drawn} {os : OsState} {h : Heap}
include O hA
theorem P0_t {nu na ne nae n t : Nat} {ns nas : List Value} {r : Led} {gl : List GenState} (S₀ : St (Bw w b h₀) h ((nu + 186, listO ns ne) :: (na + 186, listO nas nae) :: r) (n + 186))
  (next : ∀ κ, κ = (P0 w b nu na ne nae n t ns nas r gl).kont → depOk A₀ κ → κ.rlen = 1 → κ.len = 1 → ∀ h' t', St (Bw w b h₀) h' ((n + 186, frameO 3 [en (wf w b) c_numers t (.ref (nu + 186)), en (wf w b) c_names (t + 1) (.ref (na + 186)), en (wf w b) c_pieces (t + 2) (.ref (n + 187))]) :: (n + 187, listO [] 0) :: (n + 189, rI 0 6) :: (nu + 186, listO ns ne) :: (na + 186, listO nas nae) :: r) ((n + 190)) → cA w b (arnd A₀ κ) (forOf (pcStmt (wf w b).params 1) (n + 189) (pcEnv (wf w b).params n)) (endK (Bw w b h₀) A₀ R κ) (sh h' gl dr t' os)) :
  cA w b A₀ (Code.call (.ref 170) ⟨[.ref (nu + 186), .ref (na + 186)], []⟩) R (sh h gl dr t os) := by
 exact code_run (qs := (P0_q w b nu na ne nae n t ns nas r gl)) O hA  (aC trivial <| aN) (fine_cut (o := P0 w b nu na ne nae n t ns nas r gl) (is := [3, 2, 0, 4, 5]) (d := 6) (Vw.Is.eq (by refine Bool.rec ?_ ?_ b <;> and_intros <;> kernel_rfl)) rfl (next _ rfl)) S₀
theorem pu_t {fr pc it nu na ne nae ep n t u c4 m6 ch dd : Nat} {k1 k2 k3 k4 k5 k6 tn : Nat} {k : Nat} {p : Nat → Nat} {tw : Nat → Nat} {wh : List Nat} {N d12 d6 : Int} {ns nas : List Value} {kq kw kd : Value} {r : Led} {gl : List GenState} (hk : k < 6) (hN : ns[k]? = some (.int N u)) (hna : nas[k]? = some (.str (S (ncs k)) tn)) (h12 : N.fdiv 12 = d12) (h4 : d12.fmod 4 = Int.ofNat c4) (hch : [32, 9, 13, 10][c4]? = some ch) (h6 : N.fmod 6 = Int.ofNat m6) (hd6 : N.fdiv 6 = d6) (hc4 : c4 < 1000) (hb : d6.fmod 2 = 0) (hmul : OraOk PySem.Challenge.pw_tl0006_01 (wf w b) [] (bi "str.__mul__" [.str (S [ch]) (t + 7), .int (Int.ofNat (1 + m6)) (t + 11)]) (fun t => .str (S wh) (tw t)) dd) (S₀ : St (Bw w b h₀) h ((fr + 186, pcF (wf w b) k nu na pc k1 k2 k3 k4 k5 k6 kq kw kd) :: (it + 186, rangeItO k (6 - k)) :: (pc + 186, listO (pcsL k p) ep) :: (nu + 186, listO ns ne) :: (na + 186, listO nas nae) :: r) (n + 186))
  (next : ∀ h' t', St (Bw w b h₀) h' ((fr + 186, frameO 6 [en (wf w b) c_numers k1 (.ref (nu + 186)), en (wf w b) c_names k2 (.ref (na + 186)), en (wf w b) c_pieces k3 (.ref (pc + 186)), en (wf w b) [107] (ktk k (t + 1) k4) (.int (Int.ofNat k) t), en (wf w b) c_white (ktk k (t + 1 + 1 + 1 + 0 + 1 + 1 + 1 + 1 + 1 + 1 + 0 + 1 + 1 + 1 + dd) k5) (.str (S wh) (tw (t + 1 + 1 + 1 + 0 + 1 + 1 + 1 + 1 + 1 + 1 + 0 + 1 + 1 + 1))), en (wf w b) c_word (ktk k (t + 1 + 1 + 1 + 0 + 1 + 1 + 1 + 1 + 1 + 1 + 0 + 1 + 1 + 1 + dd + 3) k6) (.str (S (92 :: ncs k)) (t + 1 + 1 + 1 + 0 + 1 + 1 + 1 + 1 + 1 + 1 + 0 + 1 + 1 + 1 + dd + 2))]) :: (it + 186, rangeItO (k + 1) (5 - k)) :: (pc + 186, listO (pcsL k p ++ [.ref (n + 186)]) (ep + 1)) :: (n + 186, tupO [.str (S wh) (tw (t + 1 + 1 + 1 + 0 + 1 + 1 + 1 + 1 + 1 + 1 + 0 + 1 + 1 + 1)), .str (S (92 :: ncs k)) (t + 1 + 1 + 1 + 0 + 1 + 1 + 1 + 1 + 1 + 1 + 0 + 1 + 1 + 1 + dd + 2)]) :: (nu + 186, listO ns ne) :: (na + 186, listO nas nae) :: r) ((n + 187)) → cA w b A₀ (forOf (pcStmt (wf w b).params 1) (it + 186) (pcEnv (wf w b).params fr)) R (sh h' gl dr t' os)) :
  cA w b A₀ (forOf (pcStmt (wf w b).params 1) (it + 186) (pcEnv (wf w b).params fr)) R (sh h gl dr t os) := by
 exact code_run (f := 163) (ls := (dg 50 68360943476083544483862317083614539509815190166893509873116102864531295049264196231205205680123171)) (qs := [(3, .ora [3] [((nu + 186), listO ((ns)) ne)] (lgi [.ref (nu + 186), .int (Int.ofNat k) t]) (fun t => Value.int N u) 0), (1, .ora [] [] (bi "int.__floordiv__" [.int (N) u, .int 12 (t + 3)]) (fun t => Value.int d12 t) 1), (1, .ora [] [] (bi "int.__mod__" [.int (d12) (t + 4), .int 4 (t + 5)]) (fun t => Value.int (Int.ofNat c4) t) 1), (1, .ora [] [] (bi "str.__getitem__" [.str (S [32, 9, 13, 10]) (t + 2), .int (Int.ofNat c4) (t + 6)]) (fun t => Value.str (S [ch]) t) 1), (1, .ora [3] [((nu + 186), listO ((ns)) ne)] (lgi [.ref (nu + 186), .int (Int.ofNat k) t]) (fun t => Value.int N u) 0), (1, .ora [] [] (bi "int.__mod__" [.int (N) u, .int 6 (t + 9)]) (fun t => Value.int (Int.ofNat m6) t) 1), (5, .ora [] [] (bi "str.__mul__" [.str (S [ch]) (t + 7), .int (Int.ofNat (1 + m6)) (t + 11)]) (fun t => Value.str (S wh) (tw t)) (dd)), (1, .ora [4] [((na + 186), listO ((nas)) nae)] (lgi [.ref (na + 186), .int (Int.ofNat k) t]) (fun t => Value.str (S (ncs k)) tn) 0), (3, .ora [3] [((nu + 186), listO ((ns)) ne)] (lgi [.ref (nu + 186), .int (Int.ofNat k) t]) (fun t => Value.int N u) 0), (1, .ora [] [] (bi "int.__floordiv__" [.int (N) u, .int 6 (t + 1 + 1 + 1 + 0 + 1 + 1 + 1 + 1 + 1 + 1 + 0 + 1 + 1 + 1 + dd + 4)]) (fun t => Value.int d6 t) 1), (1, .ora [] [] (bi "int.__mod__" [.int (d6) (t + 1 + 1 + 1 + 0 + 1 + 1 + 1 + 1 + 1 + 1 + 0 + 1 + 1 + 1 + dd + 5), .int 2 (t + 1 + 1 + 1 + 0 + 1 + 1 + 1 + 1 + 1 + 1 + 0 + 1 + 1 + 1 + dd + 6)]) (fun t => Value.int 0 t) 1), (4, .cut)]) O hA  (aC (ora_list_item _ _ _ _ _ _ hN (by lia)) <| aC (ora_div _ _ _ _ _ (by decide) (by decide) h12) <| aC (ora_mod _ _ _ _ _ (by decide) h4) <| aC (ora_str_item _ _ _ _ _ hch hc4) <| aC (ora_list_item _ _ _ _ _ _ hN (by lia)) <| aC (ora_mod _ _ _ _ _ (by decide) h6) <| aC hmul <| aC (ora_list_item _ _ _ _ _ _ hna (by lia)) <| aC (ora_list_item _ _ _ _ _ _ hN (by lia)) <| aC (ora_div _ _ _ _ _ (by decide) (by decide) hd6) <| aC (ora_mod _ _ _ _ _ (by decide) hb) <| aC trivial <| aN) (fine_loop (is := [1, 2, 3, 0, 4, 5]) (d := 6) (Vw.Is.eq (by clear next S₀ hN hna; rcases six_k hk with rfl | rfl | rfl | rfl | rfl | rfl <;> refine Bool.rec ?_ ?_ b <;> and_intros <;> kernel_rfl)) rfl next) S₀
theorem pq_t {fr pc it nu na ne nae ep n t u c4 m6 ch dd : Nat} {k1 k2 k3 k4 k5 k6 tn : Nat} {k : Nat} {p : Nat → Nat} {tw : Nat → Nat} {wh : List Nat} {N d12 d6 : Int} {ns nas : List Value} {kq kw kd : Value} {r : Led} {gl : List GenState} (hk : k < 6) (hN : ns[k]? = some (.int N u)) (hna : nas[k]? = some (.str (S (ncs k)) tn)) (h12 : N.fdiv 12 = d12) (h4 : d12.fmod 4 = Int.ofNat c4) (hch : [32, 9, 13, 10][c4]? = some ch) (h6 : N.fmod 6 = Int.ofNat m6) (hd6 : N.fdiv 6 = d6) (hc4 : c4 < 1000) (hb : d6.fmod 2 = 1) (hmul : OraOk PySem.Challenge.pw_tl0006_01 (wf w b) [] (bi "str.__mul__" [.str (S [ch]) (t + 7), .int (Int.ofNat (1 + m6)) (t + 11)]) (fun t => .str (S wh) (tw t)) dd) (S₀ : St (Bw w b h₀) h ((fr + 186, pcF (wf w b) k nu na pc k1 k2 k3 k4 k5 k6 kq kw kd) :: (it + 186, rangeItO k (6 - k)) :: (pc + 186, listO (pcsL k p) ep) :: (nu + 186, listO ns ne) :: (na + 186, listO nas nae) :: r) (n + 186))
  (next : ∀ h' t', St (Bw w b h₀) h' ((fr + 186, frameO 6 [en (wf w b) c_numers k1 (.ref (nu + 186)), en (wf w b) c_names k2 (.ref (na + 186)), en (wf w b) c_pieces k3 (.ref (pc + 186)), en (wf w b) [107] (ktk k (t + 1) k4) (.int (Int.ofNat k) t), en (wf w b) c_white (ktk k (t + 1 + 1 + 1 + 0 + 1 + 1 + 1 + 1 + 1 + 1 + 0 + 1 + 1 + 1 + dd) k5) (.str (S wh) (tw (t + 1 + 1 + 1 + 0 + 1 + 1 + 1 + 1 + 1 + 1 + 0 + 1 + 1 + 1))), en (wf w b) c_word (ktk k (t + 1 + 1 + 1 + 0 + 1 + 1 + 1 + 1 + 1 + 1 + 0 + 1 + 1 + 1 + dd + 3) k6) (.str (S (wQ k)) (t + 1 + 1 + 1 + 0 + 1 + 1 + 1 + 1 + 1 + 1 + 0 + 1 + 1 + 1 + dd + 15))]) :: (it + 186, rangeItO (k + 1) (5 - k)) :: (pc + 186, listO (pcsL k p ++ [.ref (n + 186)]) (ep + 1)) :: (n + 186, tupO [.str (S wh) (tw (t + 1 + 1 + 1 + 0 + 1 + 1 + 1 + 1 + 1 + 1 + 0 + 1 + 1 + 1)), .str (S (wQ k)) (t + 1 + 1 + 1 + 0 + 1 + 1 + 1 + 1 + 1 + 1 + 0 + 1 + 1 + 1 + dd + 15)]) :: (nu + 186, listO ns ne) :: (na + 186, listO nas nae) :: r) ((n + 187)) → cA w b A₀ (forOf (pcStmt (wf w b).params 1) (it + 186) (pcEnv (wf w b).params fr)) R (sh h' gl dr t' os)) :
  cA w b A₀ (forOf (pcStmt (wf w b).params 1) (it + 186) (pcEnv (wf w b).params fr)) R (sh h gl dr t os) := by
 exact code_run (f := 218) (ls := (dg 47 30913528660793590202956106941416631955981574167966690247473930493113006938105182806806687011) ++ ((match k with | 0 => [] | 1 => [] | _ => [5, 5, 5, 5, 1]) ++ [1, 1, 3, 3, 3, 3, 1, 1, 4, 4, 4, 4])) (qs := (3, .ora [3] [((nu + 186), listO ((ns)) ne)] (lgi [.ref (nu + 186), .int (Int.ofNat k) t]) (fun t => Value.int N u) 0) :: (1, .ora [] [] (bi "int.__floordiv__" [.int (N) u, .int 12 (t + 3)]) (fun t => Value.int d12 t) 1) :: (1, .ora [] [] (bi "int.__mod__" [.int (d12) (t + 4), .int 4 (t + 5)]) (fun t => Value.int (Int.ofNat c4) t) 1) :: (1, .ora [] [] (bi "str.__getitem__" [.str (S [32, 9, 13, 10]) (t + 2), .int (Int.ofNat c4) (t + 6)]) (fun t => Value.str (S [ch]) t) 1) :: (1, .ora [3] [((nu + 186), listO ((ns)) ne)] (lgi [.ref (nu + 186), .int (Int.ofNat k) t]) (fun t => Value.int N u) 0) :: (1, .ora [] [] (bi "int.__mod__" [.int (N) u, .int 6 (t + 9)]) (fun t => Value.int (Int.ofNat m6) t) 1) :: (5, .ora [] [] (bi "str.__mul__" [.str (S [ch]) (t + 7), .int (Int.ofNat (1 + m6)) (t + 11)]) (fun t => Value.str (S wh) (tw t)) (dd)) :: (1, .ora [4] [((na + 186), listO ((nas)) nae)] (lgi [.ref (na + 186), .int (Int.ofNat k) t]) (fun t => Value.str (S (ncs k)) tn) 0) :: (3, .ora [3] [((nu + 186), listO ((ns)) ne)] (lgi [.ref (nu + 186), .int (Int.ofNat k) t]) (fun t => Value.int N u) 0) :: (1, .ora [] [] (bi "int.__floordiv__" [.int (N) u, .int 6 (t + 1 + 1 + 1 + 0 + 1 + 1 + 1 + 1 + 1 + 1 + 0 + 1 + 1 + 1 + dd + 4)]) (fun t => Value.int d6 t) 1) :: (1, .ora [] [] (bi "int.__mod__" [.int (d6) (t + 1 + 1 + 1 + 0 + 1 + 1 + 1 + 1 + 1 + 1 + 0 + 1 + 1 + 1 + dd + 5), .int 2 (t + 1 + 1 + 1 + 0 + 1 + 1 + 1 + 1 + 1 + 1 + 0 + 1 + 1 + 1 + dd + 6)]) (fun t => Value.int 1 t) 1) :: (3, .ora [4] [((na + 186), listO ((nas)) nae)] (lgi [.ref (na + 186), .int (Int.ofNat k) t]) (fun t => Value.str (S (ncs k)) tn) 0) :: tlq k na nae t tn nas) O hA  (aC (ora_list_item _ _ _ _ _ _ hN (by lia)) <| aC (ora_div _ _ _ _ _ (by decide) (by decide) h12) <| aC (ora_mod _ _ _ _ _ (by decide) h4) <| aC (ora_str_item _ _ _ _ _ hch hc4) <| aC (ora_list_item _ _ _ _ _ _ hN (by lia)) <| aC (ora_mod _ _ _ _ _ (by decide) h6) <| aC hmul <| aC (ora_list_item _ _ _ _ _ _ hna (by lia)) <| aC (ora_list_item _ _ _ _ _ _ hN (by lia)) <| aC (ora_div _ _ _ _ _ (by decide) (by decide) hd6) <| aC (ora_mod _ _ _ _ _ (by decide) hb) <| aC (ora_list_item _ _ _ _ _ _ hna (by lia)) <| tlq_ok hk hna) (fine_loop (is := [1, 2, 3, 0, 4, 5]) (d := 6) (Vw.Is.eq (by clear next S₀ hN hna; rcases six_k hk with rfl | rfl | rfl | rfl | rfl | rfl <;> refine Bool.rec ?_ ?_ b <;> and_intros <;> kernel_rfl)) rfl next) S₀
theorem pIE_t {fr it n t : Nat} {r : Led} {gl : List GenState} (S₀ : St (Bw w b h₀) h ((it + 186, rangeItO 6 0) :: r) (n + 186))
  (next : ∀ h' t', St (Bw w b h₀) h' (r) ((n + 188)) → R (.ok PySem.Flow.next) (sh h' gl dr t' os)) :
  cA w b A₀ (forOf (pcStmt (wf w b).params 1) (it + 186) (pcEnv (wf w b).params fr)) R (sh h gl dr t os) := by
 exact code_run (f := 21) (ls := [1, 1, 1, 1, 1, 1]) (qs := []) O hA  aN (fine_done (is := []) (d := 3) (Vw.Is.eq (by refine Bool.rec ?_ ?_ b <;> and_intros <;> kernel_rfl)) rfl next) S₀
theorem P0r_t {nu na ne nae n t : Nat} {ns nas : List Value} {r : Led} {gl : List GenState} {n2 t2 pc k1 k2 k3 : Nat} {ext : List DictEntry} {r2 : Led} {e : Nat} {κ : RK} (hκ : κ = (P0 w b nu na ne nae n t ns nas r gl).kont) {ml : Nat} (hl : κ.rlen = ml + 1) (hd : depOk A₀ κ)  (S₀ : St (Bw w b h₀) h ((n + 186, frameO e (en (wf w b) c_numers k1 (.ref (nu + 186)) :: en (wf w b) c_names k2 (.ref (na + 186)) :: en (wf w b) c_pieces k3 (.ref (pc + 186)) :: ext)) :: r2) (n2 + 186))
  (next : ∀ h' t', St (Bw w b h₀) h' (r2) ((n2 + 186)) → R (.ok (.ret (.ref (pc + 186)))) (sh h' gl dr t' os)) :
  endK (Bw w b h₀) A₀ R κ (.ok .next) (sh h gl dr t2 os) := by
 exact rest_run (f := 9) (ls := [1]) (qs := []) O hA hκ hl hd aN (fine_done (is := []) (d := 1) (Vw.Is.eq (by refine Bool.rec ?_ ?_ b <;> and_intros <;> kernel_rfl)) rfl next) S₀
end
noncomputable def whiteN (N : Int) : List Nat := List.replicate (1 + (N.fmod 6).toNat) ([32, 9, 13, 10].getD ((N.fdiv 12).fmod 4).toNat 0)
noncomputable def quotedN (N : Int) : Bool := decide ((N.fdiv 6).fmod 2 = 1)
theorem mul_ok {prog : Program} {w : World} (ch m6 : Nat) (hm : m6 < 6) (a e : Nat) : ∃ (tw : Nat → Nat) (dd : Nat), OraOk prog w [] (bi "str.__mul__" [.str (S [ch]) a, .int (Int.ofNat (1 + m6)) e]) (fun t => .str (S (List.replicate (1 + m6) ch)) (tw t)) dd := by
 rcases Nat.eq_zero_or_pos m6 with h | h
 ·subst h
  exact ⟨fun _ => a, 0, ora_str_mul1 ch a e⟩
 ·exact ⟨fun t => t, 1, ora_str_mul ch (1 + m6) a e (by omega) (by omega)⟩
theorem fmod_nat (a : Int) (k : Nat) (hk : 0 < k) : a.fmod (Int.ofNat k) = Int.ofNat (a.fmod (Int.ofNat k)).toNat ∧ (a.fmod (Int.ofNat k)).toNat < k := by
 have h1 : 0 ≤ a.fmod (Int.ofNat k) := Int.fmod_nonneg_of_pos a (by simp; omega)
 have h2 : a.fmod (Int.ofNat k) < Int.ofNat k := Int.fmod_lt_of_pos a (by simp; omega)
 exact ⟨(Int.toNat_of_nonneg h1).symm, by simp at h2 ⊢; omega⟩
theorem ch_ok (c : Nat) (h : c < 4) : [32, 9, 13, 10][c]? = some ([32, 9, 13, 10].getD c 0) := by
 match c, h with
 | 0, _ => rfl
 | 1, _ => rfl
 | 2, _ => rfl
 | 3, _ => rfl
theorem two_cases (a : Int) : a.fmod 2 = 0 ∨ a.fmod 2 = 1 := by
 obtain ⟨h1, h2⟩ := fmod_nat a 2 (by decide)
 have : (Int.ofNat 2) = 2 := rfl
 rw [this] at h1 h2
 rw [h1]
 have : (a.fmod 2).toNat = 0 ∨ (a.fmod 2).toNat = 1 := by omega
 rcases this with h | h <;> rw [h] <;> simp
noncomputable def wrd (k : Nat) : Bool → List Nat
 | true => wQ k
 | false => 92 :: ncs k
theorem pcsL_succ (k : Nat) (p : Nat → Nat) : pcsL k p ++ [.ref (p k + 186)] = pcsL (k + 1) p := by
 simp [pcsL, List.range_succ]
theorem pstep {w : World} {b : Bool} {h₀ : HS} (O : (Bw w b h₀).Ok) {A₀ : Around} (hA : AOk A₀ 140) {R : Result → Shared → Prop} {dr : Drawn} {os : OsState} {gl : List GenState} {fr pc it nu na ne nae ep n t u k1 k2 k3 tn k4 k5 k6 : Nat} {N : Int} {ns nas : List Value} {kq kw kd : Value} {r : Led} {h : Heap} (k : Nat) (p : Nat → Nat) (wt : Bool → List Nat) (hk : k < 6) (hp : p k = n) (hwt : ∀ q, wrd k q = wt q)
  (hN : ns[k]? = some (.int N u)) (hna : nas[k]? = some (.str (S (ncs k)) tn)) (S₀ : St (Bw w b h₀) h ((fr + 186, pcF (wf w b) k nu na pc k1 k2 k3 k4 k5 k6 kq kw kd) :: (it + 186, rangeItO k (6 - k)) :: (pc + 186, listO (pcsL k p) ep) :: (nu + 186, listO ns ne) :: (na + 186, listO nas nae) :: r) (n + 186))
  (next : ∀ h' t' k4 k5 k6 kq kw kd ep' a1 a2, St (Bw w b h₀) h' ((fr + 186, pcF (wf w b) (k + 1) nu na pc k1 k2 k3 k4 k5 k6 kq kw kd) :: (it + 186, rangeItO (k + 1) (5 - k)) :: (pc + 186, listO (pcsL (k + 1) p) ep') :: (nu + 186, listO ns ne) :: (na + 186, listO nas nae) :: (n + 186, tupO [.str (S (whiteN N)) a1, .str (S (wt (quotedN N))) a2]) :: r) (n + 187) → cA w b A₀ (forOf (pcStmt (wf w b).params 1) (it + 186) (pcEnv (wf w b).params fr)) R (sh h' gl dr t' os)) :
  cA w b A₀ (forOf (pcStmt (wf w b).params 1) (it + 186) (pcEnv (wf w b).params fr)) R (sh h gl dr t os) := by
 obtain ⟨h6, h6b⟩ := fmod_nat N 6 (by decide)
 obtain ⟨h4, h4b⟩ := fmod_nat (N.fdiv 12) 4 (by decide)
 obtain ⟨tw, dd, hmul⟩ := mul_ok (prog := PySem.Challenge.pw_tl0006_01) (w := wf w b) ([32, 9, 13, 10].getD ((N.fdiv 12).fmod 4).toNat 0) (N.fmod 6).toNat h6b (t + 7) (t + 11)
 subst hp
 rw [← pcsL_succ, ← hwt] at next
 rcases two_cases (N.fdiv 6) with hb | hb
 ·rw [show quotedN N = false by simp [quotedN, hb]] at next
  exact pu_t O hA hk hN hna rfl h4 (ch_ok _ h4b) h6 rfl (by omega) hb hmul S₀ fun h' t' S' => next h' t' _ _ _ _ _ _ _ _ _ (S'.perm (((List.perm_middle (l₁ := [_, _])).cons _).cons _ |>.cons _))
 ·rw [show quotedN N = true by simp [quotedN, hb]] at next
  exact pq_t O hA hk hN hna rfl h4 (ch_ok _ h4b) h6 rfl (by omega) hb hmul S₀ fun h' t' S' => next h' t' _ _ _ _ _ _ _ _ _ (S'.perm (((List.perm_middle (l₁ := [_, _])).cons _).cons _ |>.cons _))
theorem law_pieces {w : World} {b : Bool} {h₀ : HS} (O : (Bw w b h₀).Ok) {A₀ : Around} (hA : AOk A₀ 150) {R : Result → Shared → Prop} {dr : Drawn} {os : OsState} {gl : List GenState} {nu na ne nae n t u0 u1 u2 u3 u4 u5 s0 s1 s2 s3 s4 s5 : Nat} {N0 N1 N2 N3 N4 N5 : Int} {r : Led} {h : Heap}
  (S₀ : St (Bw w b h₀) h ((nu + 186, listO [.int N0 u0, .int N1 u1, .int N2 u2, .int N3 u3, .int N4 u4, .int N5 u5] ne) :: (na + 186, listO [.str (S [34, 97]) s0, .str (S [92, 98]) s1, .str (S [35, 99]) s2, .str (S [10, 100]) s3, .str (S [9, 101]) s4, .str (S [32, 102]) s5] nae) :: r) (n + 186))
  (next : ∀ h' n' t' pc ep p0 p1 p2 p3 p4 p5 a0 a1 a2 a3 a4 a5 b0 b1 b2 b3 b4 b5, St (Bw w b h₀) h' ((pc + 186, listO [.ref (p0 + 186), .ref (p1 + 186), .ref (p2 + 186), .ref (p3 + 186), .ref (p4 + 186), .ref (p5 + 186)] ep) :: (nu + 186, listO [.int N0 u0, .int N1 u1, .int N2 u2, .int N3 u3, .int N4 u4, .int N5 u5] ne) :: (na + 186, listO [.str (S [34, 97]) s0, .str (S [92, 98]) s1, .str (S [35, 99]) s2, .str (S [10, 100]) s3, .str (S [9, 101]) s4, .str (S [32, 102]) s5] nae) :: (p5 + 186, tupO [.str (S (whiteN N5)) a5, .str (S (wordT (quotedN N5) 32 102)) b5]) :: (p4 + 186, tupO [.str (S (whiteN N4)) a4, .str (S (wordT (quotedN N4) 9 101)) b4]) :: (p3 + 186, tupO [.str (S (whiteN N3)) a3, .str (S (wordT (quotedN N3) 10 100)) b3]) :: (p2 + 186, tupO [.str (S (whiteN N2)) a2, .str (S (wordT (quotedN N2) 35 99)) b2]) :: (p1 + 186, tupO [.str (S (whiteN N1)) a1, .str (S (wordT (quotedN N1) 92 98)) b1]) :: (p0 + 186, tupO [.str (S (whiteN N0)) a0, .str (S (wordT (quotedN N0) 34 97)) b0]) :: r) (n' + 186) → R (.ok (.ret (.ref (pc + 186)))) (sh h' gl dr t' os)) :
  cA w b A₀ (Code.call (.ref 170) ⟨[.ref (nu + 186), .ref (na + 186)], []⟩) R (sh h gl dr t os) := by
 refine P0_t O (hA.le (by omega)) S₀ fun κ hκ hdp h1 h2 h' t0 S' => ?_
 have hA2 : AOk (arnd A₀ κ) 140 := AOk.over (d := 140) (by rw [h2]; exact hA.le (by omega)) hdp
 replace S' := S'.perm (List.Perm.cons _ (List.Perm.swap ..))
 refine pstep (fr := n) (it := n + 3) (pc := n + 1) (n := n + 4) (k4 := 0) (k5 := 0) (k6 := 0) (kq := .none) (kw := .none) (kd := .none) O hA2 0 (fun i => n + 4 + i) (fun q => wordT q 34 97) (by decide) rfl (by decide) rfl rfl S' fun h' t' k4 k5 k6 kq kw kd ep' a0 b0 S' => ?_
 refine pstep (fr := n) (it := n + 3) (pc := n + 1) (n := n + 5) O hA2 1 (fun i => n + 4 + i) (fun q => wordT q 92 98) (by decide) rfl (by decide) rfl rfl S' fun h' t' k4 k5 k6 kq kw kd ep' a1 b1 S' => ?_
 refine pstep (fr := n) (it := n + 3) (pc := n + 1) (n := n + 6) O hA2 2 (fun i => n + 4 + i) (fun q => wordT q 35 99) (by decide) rfl (by decide) rfl rfl S' fun h' t' k4 k5 k6 kq kw kd ep' a2 b2 S' => ?_
 refine pstep (fr := n) (it := n + 3) (pc := n + 1) (n := n + 7) O hA2 3 (fun i => n + 4 + i) (fun q => wordT q 10 100) (by decide) rfl (by decide) rfl rfl S' fun h' t' k4 k5 k6 kq kw kd ep' a3 b3 S' => ?_
 refine pstep (fr := n) (it := n + 3) (pc := n + 1) (n := n + 8) O hA2 4 (fun i => n + 4 + i) (fun q => wordT q 9 101) (by decide) rfl (by decide) rfl rfl S' fun h' t' k4 k5 k6 kq kw kd ep' a4 b4 S' => ?_
 refine pstep (fr := n) (it := n + 3) (pc := n + 1) (n := n + 9) O hA2 5 (fun i => n + 4 + i) (fun q => wordT q 32 102) (by decide) rfl (by decide) rfl rfl S' fun h' t' k4 k5 k6 kq kw kd ep' a5 b5 S' => ?_
 have S2 := S'.perm (List.perm_middle (l₁ := [_]) (a := (n + 3 + 186, rangeItO 6 0))).symm
 refine pIE_t (fr := n) (it := n + 3) (n := n + 10) O hA2 S2 fun h' t' S' => ?_
 refine P0r_t (n2 := n + 12) (pc := n + 1) (e := 6) (ext := [_, _, _]) O (hA.le (by omega)) hκ h1 hdp S' fun h' t' S => next h' (n + 12) t' (n + 1) ep' (n + 4) (n + 5) (n + 6) (n + 7) (n + 8) (n + 9) a0 a1 a2 a3 a4 a5 b0 b1 b2 b3 b4 b5 (Eq.mp (by kernel_rfl) S)
theorem mov_row_len {V : RV} (l : Addr) (c : Value) (d : Option Addr) (vs : List Value) (ep m : Nat) {idx : List Nat} {rest : Led} (hm : vs.length = m) :
  MovOk V idx ((l, { cls := c, dict := d, data := .seq ⟨vs⟩ ep }) :: rest) (bi "list.__len__" [.ref l]) (fun _ t => .ok (.ret (.int (Int.ofNat m) t))) 1 [] fun _ => [] := by
 subst hm
 refine mov_tree (by decide +kernel) F.entry_list_len fun B hB A h gl dr t' os R lg n hpk hA S next => ?_
 have ho := S.led _ (pick_mem (by rw [hpk]; exact .head _))
 show wpAny _ _ ((loadPart l (some keysPart) >>= fun o => match o.data with | .seq xs _ => pure xs.size | _ => unsupported "internal:not-a-sequence") >>= _) _ _ _
 refine wpAny_bind (wpAny_bind (wpAny_loadPart' ho ?_))
 refine wpAny_pure ?_
 show wpAny _ _ (mkInt _ >>= _) _ _ _
 refine wpAny_bind (wpAny_mkInt (wpAny_pure ?_))
 exact next _ (by rw [setAll_nil]; exact S)
noncomputable def piStmt (P : Params) (i : Nat) : Option Stmt := (bodyOfFor (lawStmt P 17))[i]?
section
variable {h₀ : HS} {w : World} {b : Bool} (O : (Bw w b h₀).Ok) {A₀ : Around} (hA : AOk A₀ 200) {R : Result → Shared → Prop} {dr : Drawn} {os : OsState} {h : Heap}
include O hA
theorem paEA_t {lay : Bool} {z1 : Z1} {z2 : Z2} {z3 : Z3} {z7 : Z7} {n t it i pa pd pe pk qk dv dt m : Nat} {r : Led} {gl : List GenState} (hx : (intV z7.dl)[i]? = some (.int (Int.ofNat dv) dt)) (gMul : ∀ (t0 : Nat) (idx : List Nat), idx.Nodup → GapOk (Bw w b h₀) A₀ 3 idx [] (bi "str.__mul__" [.str (S [32]) t0, .int (Int.ofNat dv) dt]) (fun φ => .ok (.ret (.str (S (List.replicate dv 32)) (φ 2)))) (fun _ => [])) (S₀ : St (Bw w b h₀) h ((z1.n + 186, lawG (wf w b) lay z1 z2 z3 z7 19 [en (wf w b) c_pile pk (.ref (pa + 186))]) :: (it + 186, liO (z7.de + 186) i) :: (z7.de + 186, listO (intV z7.dl) z7.d0) :: (pa + 186, rowO (pd + 186) ([]) pe) :: (pd + 186, dictO 1 [en (wf w b) c_iniize qk (.int 0 286)]) :: r) (n + 186))
  (next : ∀ ps0 : Nat → SX, ∀ κ, κ = kpi w b z1.n it → depOk A₀ κ → κ.rlen = 1 → κ.len = 1 → ∀ h' t', St (Bw w b h₀) h' ((z1.n + 186, lawG (wf w b) lay z1 z2 z3 z7 22 [en (wf w b) c_pile pk (.ref (pa + 186)), en (wf w b) c_depth t (.int (Int.ofNat dv) dt), en (wf w b) [111, 110, 101] ((SX.fresh (ps0 0)) 1 + 1) (.ref ((SX.fresh (ps0 0)) 0 + 186)), en (wf w b) c_below ((SX.fresh (ps0 0)) 1 + 9) (.ref ((SX.fresh (ps0 0)) 0 + 191))]) :: (it + 186, lI (z7.de + 186) (Int.ofNat (i + 1))) :: (z7.de + 186, listO (intV z7.dl) z7.d0) :: (pa + 186, rowO (pd + 186) ([]) pe) :: (pd + 186, dictO 1 [en (wf w b) c_iniize qk (.int 0 286)]) :: ((SX.fresh (ps0 0)) 0 + 186, tupO [.str (S (List.replicate dv 32)) ((SX.fresh (ps0 0)) 2), .str (S [46]) ((SX.fresh (ps0 0)) 1)]) :: ((SX.fresh (ps0 0)) 0 + 191, tupO [.str (S []) ((SX.fresh (ps0 0)) 1 + 7), .str (S []) ((SX.fresh (ps0 0)) 1 + 8)]) :: r) (((SX.fresh (ps0 0)) 0 + 192)) → cA w b (arnd A₀ κ) (whOf (piStmt (wf w b).params 2) (lawEnv (wf w b).params z1.n)) (endK (Bw w b h₀) A₀ R κ) (sh h' gl dr t' os)) :
  cA w b A₀ (forOf (lawStmt (wf w b).params 17) (it + 186) (lawEnv (wf w b).params z1.n)) R (sh h gl dr t os) := by
 exact code_run (f := 193) (ls := (dg 88 231870863392176967868248367190061932567254017038493603975161713852987902872301192477632993001999201887869792286519614910402508998704136871349015517942975869926319355084884259)) (qs := [(1, .mov [1, 2] [((it + 186), lI (z7.de + 186) (Int.ofNat i)), ((z7.de + 186), listO ((intV z7.dl)) z7.d0)] (bi "list_iterator.__next__" [.ref (it + 186)]) (fun n t => .ok (.ret (.int (Int.ofNat dv) dt))) 0 [liO (z7.de + 186) (i + 1)] (fun n => [])), (3, .gap 3 [] ([]) (bi "str.__mul__" [.str (S [32]) (t + 1), .int (Int.ofNat dv) dt]) (fun φ => .ok (.ret (.str (S (List.replicate dv 32)) (φ 2)))) (fun φ => []) (fun φ0 => [(18, .cut)]))]) O (hA.le (by lia))  (aC (mov_li_next _ _ _ _ _ _ _ rfl hx) <| aC ⟨gMul _ _ (by decide), fun φ => iK <| iN⟩ <| aN) (FineS.ats (m := 1) fun ps0 => (fine_cut (is := [6, 7, 8, 9, 10, 5, 0]) (d := 11) (Vw.Is.eq (by refine Bool.rec (Bool.rec ?_ ?_ lay) (Bool.rec ?_ ?_ lay) b <;> and_intros <;> kernel_rfl)) rfl (next ps0 _ (rk_eq (by refine Bool.rec (Bool.rec ?_ ?_ lay) (Bool.rec ?_ ?_ lay) b <;> kernel_rfl))))) S₀
theorem paNB_t {lay : Bool} {z1 : Z1} {z2 : Z2} {z3 : Z3} {z7 : Z7} {n t it i pa pd pe pk qk dv dt q1 q2 q3 m tp : Nat} {vd vo vb : Value} {vs : List Value} {r : Led} {gl : List GenState} (hx : (intV z7.dl)[i]? = some (.int (Int.ofNat dv) dt)) (hm : (vs ++ [Value.ref (tp + 186)]).length = m + 1) (hz : vs.length < 1000) (gMul : ∀ (t0 : Nat) (idx : List Nat), idx.Nodup → GapOk (Bw w b h₀) A₀ 3 idx [] (bi "str.__mul__" [.str (S [32]) t0, .int (Int.ofNat dv) dt]) (fun φ => .ok (.ret (.str (S (List.replicate dv 32)) (φ 2)))) (fun _ => [])) (S₀ : St (Bw w b h₀) h ((z1.n + 186, lawG (wf w b) lay z1 z2 z3 z7 22 [en (wf w b) c_pile pk (.ref (pa + 186)), en (wf w b) c_depth q1 (vd), en (wf w b) [111, 110, 101] q2 (vo), en (wf w b) c_below q3 (vb)]) :: (it + 186, liO (z7.de + 186) i) :: (z7.de + 186, listO (intV z7.dl) z7.d0) :: (pa + 186, rowO (pd + 186) (vs ++ [.ref (tp + 186)]) pe) :: (pd + 186, dictO 1 [en (wf w b) c_iniize qk (.int 0 286)]) :: r) (n + 186))
  (next : ∀ ps0 : Nat → SX, ∀ κ, κ = kpi w b z1.n it → depOk A₀ κ → κ.rlen = 1 → κ.len = 1 → ∀ h' t', St (Bw w b h₀) h' ((z1.n + 186, lawG (wf w b) lay z1 z2 z3 z7 22 [en (wf w b) c_pile pk (.ref (pa + 186)), en (wf w b) c_depth q1 (.int (Int.ofNat dv) dt), en (wf w b) [111, 110, 101] q2 (.ref ((SX.fresh (ps0 0)) 0 + 186)), en (wf w b) c_below q3 (.ref (tp + 186))]) :: (it + 186, lI (z7.de + 186) (Int.ofNat (i + 1))) :: (z7.de + 186, listO (intV z7.dl) z7.d0) :: (pa + 186, rowO (pd + 186) vs (pe + 1)) :: (pd + 186, dictO 1 [en (wf w b) c_iniize qk (.int 0 286)]) :: ((SX.fresh (ps0 0)) 0 + 186, tupO [.str (S (List.replicate dv 32)) ((SX.fresh (ps0 0)) 2), .str (S [46]) ((SX.fresh (ps0 0)) 1)]) :: r) (((SX.fresh (ps0 0)) 0 + 193)) → cA w b (arnd A₀ κ) (whOf (piStmt (wf w b).params 2) (lawEnv (wf w b).params z1.n)) (endK (Bw w b h₀) A₀ R κ) (sh h' gl dr t' os)) :
  cA w b A₀ (forOf (lawStmt (wf w b).params 17) (it + 186) (lawEnv (wf w b).params z1.n)) R (sh h gl dr t os) := by
 exact code_run (f := 252) (ls := (dg 127 53079108066596036304668810959648771791429666403198830590565964146768124524585566876942443228587119554898077906664441603283673291747622745788529211118077789380247126205770839522446663722386750012284525013344609628639505538322403454230903121510219335971)) (qs := [(1, .mov [1, 2] [((it + 186), lI (z7.de + 186) (Int.ofNat i)), ((z7.de + 186), listO ((intV z7.dl)) z7.d0)] (bi "list_iterator.__next__" [.ref (it + 186)]) (fun n t => .ok (.ret (.int (Int.ofNat dv) dt))) 0 [liO (z7.de + 186) (i + 1)] (fun n => [])), (3, .gap 3 [] ([]) (bi "str.__mul__" [.str (S [32]) (t + 1), .int (Int.ofNat dv) dt]) (fun φ => .ok (.ret (.str (S (List.replicate dv 32)) (φ 2)))) (fun φ => []) (fun φ0 => [(15, .mov [8] [((pa + 186), rowO (pd + 186) (vs ++ [Value.ref (tp + 186)]) pe)] (bi "list.__len__" [.ref (pa + 186)]) (fun n t => .ok (.ret (.int (Int.ofNat (m + 1)) t))) 1 [] (fun n => [])), (13, .mov [10] [((pa + 186), rowO (pd + 186) (vs ++ [Value.ref (tp + 186)]) pe)] (bi "list.pop" [.ref (pa + 186)]) (fun n t => .ok (.ret (.ref (tp + 186)))) 0 [rowO (pd + 186) vs (pe + 1)] (fun n => [])), (0, .cut)]))]) O (hA.le (by lia))  (aC (mov_li_next _ _ _ _ _ _ _ rfl hx) <| aC ⟨gMul _ _ (by decide), fun φ => iM (mov_row_len _ _ _ _ _ _ hm) <| iM (mov_pop _ _ _ _ _ _ hz) <| iK <| iN⟩ <| aN) (FineS.ats (m := 1) fun ps0 => (fine_cut (is := [7, 8, 9, 10, 11, 6]) (d := 12) (Vw.Is.eq (by refine Bool.rec (Bool.rec ?_ ?_ lay) (Bool.rec ?_ ?_ lay) b <;> and_intros <;> kernel_rfl)) rfl (next ps0 _ (rk_eq (by refine Bool.rec (Bool.rec ?_ ?_ lay) (Bool.rec ?_ ?_ lay) b <;> kernel_rfl))))) S₀
end
section
variable {h₀ : HS} {w : World} {b : Bool} (O : (Bw w b h₀).Ok) {A₀ : Around} (hA : AOk A₀ 140) {R : Result → Shared → Prop} {dr : Drawn} {os : OsState} {h : Heap}
include O hA
theorem pwF_t {lay : Bool} {z1 : Z1} {z2 : Z2} {z3 : Z3} {z7 : Z7} {n t pa pd pe pk qk q1 q2 q3 m tp oa o1 o2 ba b1 b3 : Nat} {ox bx bY : List Nat} {vd : Value} {vs : List Value} {r : Led} {gl : List GenState} (hq : ((S bx == S ox) && (S bY == S [46])) = false) (S₀ : St (Bw w b h₀) h ((z1.n + 186, lawG (wf w b) lay z1 z2 z3 z7 22 [en (wf w b) c_pile pk (.ref (pa + 186)), en (wf w b) c_depth q1 (vd), en (wf w b) [111, 110, 101] q2 (.ref (oa + 186)), en (wf w b) c_below q3 (.ref (ba + 186))]) :: (pa + 186, rowO (pd + 186) (vs) pe) :: (pd + 186, dictO 1 [en (wf w b) c_iniize qk (.int 0 286)]) :: (oa + 186, tupO [.str (S ox) o1, .str (S [46]) o2]) :: (ba + 186, tupO [.str (S bx) b1, .str (S bY) b3]) :: r) (n + 186))
  (next : ∀ h' t', St (Bw w b h₀) h' ((z1.n + 186, lawG (wf w b) lay z1 z2 z3 z7 22 [en (wf w b) c_pile pk (.ref (pa + 186)), en (wf w b) c_depth q1 (vd), en (wf w b) [111, 110, 101] q2 (.ref (oa + 186)), en (wf w b) c_below q3 (.ref (ba + 186))]) :: (pa + 186, rowO (pd + 186) (vs) pe) :: (pd + 186, dictO 1 [en (wf w b) c_iniize qk (.int 0 286)]) :: (oa + 186, tupO [.str (S ox) o1, .str (S [46]) o2]) :: (ba + 186, tupO [.str (S bx) b1, .str (S bY) b3]) :: r) ((n + 186)) → R (.ok PySem.Flow.next) (sh h' gl dr t' os)) :
  cA w b A₀ (whOf (piStmt (wf w b).params 2) (lawEnv (wf w b).params z1.n)) R (sh h gl dr t os) := by
 exact code_run (f := 19) (ls := [1, 1, 5, 4, 5, 5]) (qs := [(1, .ora [4, 3] [((ba + 186), tupO [.str (S bx) b1, .str (S bY) b3]), ((oa + 186), tupO [.str (S ox) o1, .str (S [46]) o2])] (bi "tuple.__eq__" [.ref (ba + 186), .ref (oa + 186)]) (fun t => Value.bool false) 0)]) O hA  (aC (ora_tuple_eq _ _ _ _ _ _ _ _ _ _ _ hq) <| aN) (fine_done (is := [0, 1, 2, 3, 4]) (d := 5) (Vw.Is.eq (by refine Bool.rec (Bool.rec ?_ ?_ lay) (Bool.rec ?_ ?_ lay) b <;> and_intros <;> kernel_rfl)) rfl (next)) S₀
end
section
variable {h₀ : HS} {w : World} {b : Bool} (O : (Bw w b h₀).Ok) {A₀ : Around} (hA : AOk A₀ 200) {R : Result → Shared → Prop} {dr : Drawn} {os : OsState} {h : Heap}
include O hA
theorem pwTE_t {lay : Bool} {z1 : Z1} {z2 : Z2} {z3 : Z3} {z7 : Z7} {n t pa pd pe pk qk q1 q2 q3 m tp oa o1 o2 ba b1 b3 : Nat} {ox bx bY : List Nat} {vd : Value} {vs : List Value} {r : Led} {gl : List GenState} (hq : ((S bx == S ox) && (S bY == S [46])) = true) (gSl : ∀ (idx : List Nat), idx.Nodup → GapOk (Bw w b h₀) A₀ 3 idx [(n + 186, sliceO (.int 1 (t + 1)) .none)] (bi "str.__getitem__" [.str (S ox) o1, .ref (n + 186)]) (fun φ => .ok (.ret (.str (S (ox.drop 1)) (φ 2)))) (fun _ => [])) (S₀ : St (Bw w b h₀) h ((z1.n + 186, lawG (wf w b) lay z1 z2 z3 z7 22 [en (wf w b) c_pile pk (.ref (pa + 186)), en (wf w b) c_depth q1 (vd), en (wf w b) [111, 110, 101] q2 (.ref (oa + 186)), en (wf w b) c_below q3 (.ref (ba + 186))]) :: (pa + 186, rowO (pd + 186) ([]) pe) :: (pd + 186, dictO 1 [en (wf w b) c_iniize qk (.int 0 286)]) :: (oa + 186, tupO [.str (S ox) o1, .str (S [46]) o2]) :: (ba + 186, tupO [.str (S bx) b1, .str (S bY) b3]) :: r) (n + 186))
  (next : ∀ ps0 : Nat → SX, ∀ h' t', St (Bw w b h₀) h' ((z1.n + 186, lawG (wf w b) lay z1 z2 z3 z7 22 [en (wf w b) c_pile pk (.ref (pa + 186)), en (wf w b) c_depth q1 ((vd)), en (wf w b) [111, 110, 101] q2 (.ref ((SX.fresh (ps0 0)) 0 + 186)), en (wf w b) c_below q3 (.ref ((SX.fresh (ps0 0)) 0 + 191))]) :: (pa + 186, rowO (pd + 186) ([]) pe) :: (pd + 186, dictO 1 [en (wf w b) c_iniize qk (.int 0 286)]) :: ((SX.fresh (ps0 0)) 0 + 186, tupO [.str (S (List.drop 1 ox)) ((SX.fresh (ps0 0)) 2), .str (S [46]) ((SX.fresh (ps0 0)) 1)]) :: ((SX.fresh (ps0 0)) 0 + 191, tupO [.str (S []) ((SX.fresh (ps0 0)) 1 + 7), .str (S []) ((SX.fresh (ps0 0)) 1 + 8)]) :: r) (((SX.fresh (ps0 0)) 0 + 192)) → cA w b A₀ (whOf (piStmt (wf w b).params 2) (lawEnv (wf w b).params z1.n)) R (sh h' gl dr t' os)) :
  cA w b A₀ (whOf (piStmt (wf w b).params 2) (lawEnv (wf w b).params z1.n)) R (sh h gl dr t os) := by
 exact code_run (f := 199) (ls := (dg 95 19601335451185125712940745811789670967862707433523554414489770141739022033858218901925028590386829223415761497283838969465059957448248970576126964682802475952466221268659020280237492820162)) (qs := [(1, .ora [4, 3] [((ba + 186), tupO [.str (S bx) b1, .str (S bY) b3]), ((oa + 186), tupO [.str (S ox) o1, .str (S [46]) o2])] (bi "tuple.__eq__" [.ref (ba + 186), .ref (oa + 186)]) (fun t => Value.bool true) 0), (3, .gap 3 [0] ([(n + 186, sliceO (.int 1 (t + 1)) .none)]) (bi "str.__getitem__" [.str (S ox) o1, .ref (n + 186)]) (fun φ => .ok (.ret (.str (S (ox.drop 1)) (φ 2)))) (fun φ => []) (fun φ0 => [(18, .cut)]))]) O (hA.le (by lia))  (aC (ora_tuple_eq _ _ _ _ _ _ _ _ _ _ _ hq) <| aC ⟨gSl _ (by decide), fun φ => iK <| iN⟩ <| aN) (FineS.ats (m := 1) fun ps0 => (fine_loop (is := [7, 8, 9, 5, 0]) (d := 12) (Vw.Is.eq (by refine Bool.rec (Bool.rec ?_ ?_ lay) (Bool.rec ?_ ?_ lay) b <;> and_intros <;> kernel_rfl)) rfl (next ps0))) S₀
theorem pwTN_t {lay : Bool} {z1 : Z1} {z2 : Z2} {z3 : Z3} {z7 : Z7} {n t pa pd pe pk qk q1 q2 q3 m tp oa o1 o2 ba b1 b3 : Nat} {ox bx bY : List Nat} {vd : Value} {vs : List Value} {r : Led} {gl : List GenState} (hq : ((S bx == S ox) && (S bY == S [46])) = true) (hm : (vs ++ [Value.ref (tp + 186)]).length = m + 1) (hz : vs.length < 1000) (gSl : ∀ (idx : List Nat), idx.Nodup → GapOk (Bw w b h₀) A₀ 3 idx [(n + 186, sliceO (.int 1 (t + 1)) .none)] (bi "str.__getitem__" [.str (S ox) o1, .ref (n + 186)]) (fun φ => .ok (.ret (.str (S (ox.drop 1)) (φ 2)))) (fun _ => [])) (S₀ : St (Bw w b h₀) h ((z1.n + 186, lawG (wf w b) lay z1 z2 z3 z7 22 [en (wf w b) c_pile pk (.ref (pa + 186)), en (wf w b) c_depth q1 (vd), en (wf w b) [111, 110, 101] q2 (.ref (oa + 186)), en (wf w b) c_below q3 (.ref (ba + 186))]) :: (pa + 186, rowO (pd + 186) (vs ++ [.ref (tp + 186)]) pe) :: (pd + 186, dictO 1 [en (wf w b) c_iniize qk (.int 0 286)]) :: (oa + 186, tupO [.str (S ox) o1, .str (S [46]) o2]) :: (ba + 186, tupO [.str (S bx) b1, .str (S bY) b3]) :: r) (n + 186))
  (next : ∀ ps0 : Nat → SX, ∀ h' t', St (Bw w b h₀) h' ((z1.n + 186, lawG (wf w b) lay z1 z2 z3 z7 22 [en (wf w b) c_pile pk (.ref (pa + 186)), en (wf w b) c_depth q1 ((vd)), en (wf w b) [111, 110, 101] q2 (.ref ((SX.fresh (ps0 0)) 0 + 186)), en (wf w b) c_below q3 (.ref (tp + 186))]) :: (pa + 186, rowO (pd + 186) vs (pe + 1)) :: (pd + 186, dictO 1 [en (wf w b) c_iniize qk (.int 0 286)]) :: ((SX.fresh (ps0 0)) 0 + 186, tupO [.str (S (List.drop 1 ox)) ((SX.fresh (ps0 0)) 2), .str (S [46]) ((SX.fresh (ps0 0)) 1)]) :: r) (((SX.fresh (ps0 0)) 0 + 193)) → cA w b A₀ (whOf (piStmt (wf w b).params 2) (lawEnv (wf w b).params z1.n)) R (sh h' gl dr t' os)) :
  cA w b A₀ (whOf (piStmt (wf w b).params 2) (lawEnv (wf w b).params z1.n)) R (sh h gl dr t os) := by
 exact code_run (f := 258) (ls := (dg 134 4431790411090874997280894659624718250911025019085938000672313797227756688727768113247533473042749180075883527937201973527935432300394522370928079332816490918509375314770084829793017236809449185119853390101228196179759924496188405549632635001126582986168801425643714)) (qs := [(1, .ora [4, 3] [((ba + 186), tupO [.str (S bx) b1, .str (S bY) b3]), ((oa + 186), tupO [.str (S ox) o1, .str (S [46]) o2])] (bi "tuple.__eq__" [.ref (ba + 186), .ref (oa + 186)]) (fun t => Value.bool true) 0), (3, .gap 3 [0] ([(n + 186, sliceO (.int 1 (t + 1)) .none)]) (bi "str.__getitem__" [.str (S ox) o1, .ref (n + 186)]) (fun φ => .ok (.ret (.str (S (ox.drop 1)) (φ 2)))) (fun φ => []) (fun φ0 => [(15, .mov [7] [((pa + 186), rowO (pd + 186) (vs ++ [Value.ref (tp + 186)]) pe)] (bi "list.__len__" [.ref (pa + 186)]) (fun n t => .ok (.ret (.int (Int.ofNat (m + 1)) t))) 1 [] (fun n => [])), (13, .mov [9] [((pa + 186), rowO (pd + 186) (vs ++ [Value.ref (tp + 186)]) pe)] (bi "list.pop" [.ref (pa + 186)]) (fun n t => .ok (.ret (.ref (tp + 186)))) 0 [rowO (pd + 186) vs (pe + 1)] (fun n => [])), (0, .cut)]))]) O (hA.le (by lia))  (aC (ora_tuple_eq _ _ _ _ _ _ _ _ _ _ _ hq) <| aC ⟨gSl _ (by decide), fun φ => iM (mov_row_len _ _ _ _ _ _ hm) <| iM (mov_pop _ _ _ _ _ _ hz) <| iK <| iN⟩ <| aN) (FineS.ats (m := 1) fun ps0 => (fine_loop (is := [8, 9, 10, 6]) (d := 13) (Vw.Is.eq (by refine Bool.rec (Bool.rec ?_ ?_ lay) (Bool.rec ?_ ?_ lay) b <;> and_intros <;> kernel_rfl)) rfl (next ps0))) S₀
theorem pbT_t {lay : Bool} {z1 : Z1} {z2 : Z2} {z3 : Z3} {z7 : Z7} {it pa pd pk qk q1 q2 q3 : Nat} {gl : List GenState} {n2 t2 oa o1 o2 ba b1 b3 pe2 : Nat} {ox bx bY : List Nat} {vd2 : Value} {vs2 : List Value} {r2 : Led} {κ : RK} (hκ : κ = kpi w b z1.n it) {ml : Nat} (hl : κ.rlen = ml + 1) (hd : depOk A₀ κ) (hq : (!((S bx == S []) && (S bY == S []))) = true) (hz : vs2.length < 900) (S₀ : St (Bw w b h₀) h ((z1.n + 186, lawG (wf w b) lay z1 z2 z3 z7 22 [en (wf w b) c_pile pk (.ref (pa + 186)), en (wf w b) c_depth q1 (vd2), en (wf w b) [111, 110, 101] q2 (.ref (oa + 186)), en (wf w b) c_below q3 (.ref (ba + 186))]) :: (pa + 186, rowO (pd + 186) vs2 pe2) :: (pd + 186, dictO 1 [en (wf w b) c_iniize qk (.int 0 286)]) :: (oa + 186, tupO [.str (S ox) o1, .str (S [46]) o2]) :: (ba + 186, tupO [.str (S bx) b1, .str (S bY) b3]) :: r2) (n2 + 186))
  (next : ∀ h' t', St (Bw w b h₀) h' ((z1.n + 186, lawG (wf w b) lay z1 z2 z3 z7 22 [en (wf w b) c_pile pk (.ref (pa + 186)), en (wf w b) c_depth q1 (vd2), en (wf w b) [111, 110, 101] q2 (.ref (oa + 186)), en (wf w b) c_below q3 (.ref (ba + 186))]) :: (pa + 186, rowO (pd + 186) (vs2 ++ [Value.ref (n2 + 188)] ++ [Value.ref (n2 + 190)]) (pe2 + 1 + 1)) :: (pd + 186, dictO 1 [en (wf w b) c_iniize qk (.int 0 286)]) :: (n2 + 188, tupO [.str (S bx) b1, .str (S bY) b3]) :: (n2 + 190, tupO [.str (S ox) o1, .str (S [46]) o2]) :: r2) ((n2 + 191)) → cA w b A₀ (forOf (lawStmt (wf w b).params 17) (it + 186) (lawEnv (wf w b).params z1.n)) R (sh h' gl dr t' os)) :
  endK (Bw w b h₀) A₀ R κ (.ok .next) (sh h gl dr t2 os) := by
 exact rest_run (f := 218) (ls := (dg 119 876709148484947926449540990129837432634785221691343010570777022838087935018074629991968790596262520692549499718098519285267806404517133366368135177134044195037967632468530423335424034971191866324280320191874759547820858767757907249826)) (qs := [(1, .ora [5, 0] [((ba + 186), tupO [.str (S bx) b1, .str (S bY) b3]), ((n2 + 186), tupO [.str (S []) t2, .str (S []) (t2 + 1)])] (bi "tuple.__ne__" [.ref (ba + 186), .ref (n2 + 186)]) (fun t => Value.bool true) 0), (7, .mov [4, 0] [((pa + 186), rowO (pd + 186) vs2 pe2), ((n2 + 188), tupO [.str (S bx) b1, .str (S bY) b3])] (bi "list.append" [.ref (pa + 186), .ref (n2 + 188)]) (fun n t => .ok (.ret (.none))) 0 [rowO (pd + 186) (vs2 ++ [Value.ref (n2 + 188)]) (pe2 + 1)] (fun n => [])), (7, .mov [6, 0] [((pa + 186), rowO (pd + 186) (vs2 ++ [Value.ref (n2 + 188)]) (pe2 + 1)), ((n2 + 190), tupO [.str (S ox) o1, .str (S [46]) o2])] (bi "list.append" [.ref (pa + 186), .ref (n2 + 190)]) (fun n t => .ok (.ret (.none))) 0 [rowO (pd + 186) (vs2 ++ [Value.ref (n2 + 188)] ++ [Value.ref (n2 + 190)]) (pe2 + 1 + 1)] (fun n => [])), (0, .cut)]) O (hA.le (by lia)) hκ hl hd (aC (ora_tuple_ne _ _ _ _ _ _ _ _ _ _ _ hq) <| aC (mov_append _ _ _ _ _ _ (by lia)) <| aC (mov_append _ _ _ _ _ _ (by simp; lia)) <| aC trivial <| aN) (fine_loop (is := [5, 6, 7, 2, 0]) (d := 10) (Vw.Is.eq (by refine Bool.rec (Bool.rec ?_ ?_ lay) (Bool.rec ?_ ?_ lay) b <;> and_intros <;> kernel_rfl)) rfl (next)) S₀
theorem pbF_t {lay : Bool} {z1 : Z1} {z2 : Z2} {z3 : Z3} {z7 : Z7} {it pa pd pk qk q1 q2 q3 : Nat} {gl : List GenState} {n2 t2 oa o1 o2 ba b1 b3 pe2 : Nat} {ox bx bY : List Nat} {vd2 : Value} {vs2 : List Value} {r2 : Led} {κ : RK} (hκ : κ = kpi w b z1.n it) {ml : Nat} (hl : κ.rlen = ml + 1) (hd : depOk A₀ κ) (hq : (!((S bx == S []) && (S bY == S []))) = false) (hz : vs2.length < 900) (S₀ : St (Bw w b h₀) h ((z1.n + 186, lawG (wf w b) lay z1 z2 z3 z7 22 [en (wf w b) c_pile pk (.ref (pa + 186)), en (wf w b) c_depth q1 (vd2), en (wf w b) [111, 110, 101] q2 (.ref (oa + 186)), en (wf w b) c_below q3 (.ref (ba + 186))]) :: (pa + 186, rowO (pd + 186) vs2 pe2) :: (pd + 186, dictO 1 [en (wf w b) c_iniize qk (.int 0 286)]) :: (oa + 186, tupO [.str (S ox) o1, .str (S [46]) o2]) :: (ba + 186, tupO [.str (S bx) b1, .str (S bY) b3]) :: r2) (n2 + 186))
  (next : ∀ h' t', St (Bw w b h₀) h' ((z1.n + 186, lawG (wf w b) lay z1 z2 z3 z7 22 [en (wf w b) c_pile pk (.ref (pa + 186)), en (wf w b) c_depth q1 (vd2), en (wf w b) [111, 110, 101] q2 (.ref (oa + 186)), en (wf w b) c_below q3 (.ref (ba + 186))]) :: (pa + 186, rowO (pd + 186) (vs2 ++ [Value.ref (n2 + 188)]) (pe2 + 1)) :: (pd + 186, dictO 1 [en (wf w b) c_iniize qk (.int 0 286)]) :: (n2 + 188, tupO [.str (S ox) o1, .str (S [46]) o2]) :: r2) ((n2 + 189)) → cA w b A₀ (forOf (lawStmt (wf w b).params 17) (it + 186) (lawEnv (wf w b).params z1.n)) R (sh h' gl dr t' os)) :
  endK (Bw w b h₀) A₀ R κ (.ok .next) (sh h gl dr t2 os) := by
 exact rest_run (f := 120) (ls := (dg 62 8809754414392310155657182388093552424749361377013745791254661534696916778431179623098669529737018879320130579515820657314)) (qs := [(1, .ora [5, 0] [((ba + 186), tupO [.str (S bx) b1, .str (S bY) b3]), ((n2 + 186), tupO [.str (S []) t2, .str (S []) (t2 + 1)])] (bi "tuple.__ne__" [.ref (ba + 186), .ref (n2 + 186)]) (fun t => Value.bool false) 0), (7, .mov [4, 0] [((pa + 186), rowO (pd + 186) vs2 pe2), ((n2 + 188), tupO [.str (S ox) o1, .str (S [46]) o2])] (bi "list.append" [.ref (pa + 186), .ref (n2 + 188)]) (fun n t => .ok (.ret (.none))) 0 [rowO (pd + 186) (vs2 ++ [Value.ref (n2 + 188)]) (pe2 + 1)] (fun n => [])), (0, .cut)]) O (hA.le (by lia)) hκ hl hd (aC (ora_tuple_ne _ _ _ _ _ _ _ _ _ _ _ hq) <| aC (mov_append _ _ _ _ _ _ (by lia)) <| aC trivial <| aN) (fine_loop (is := [3, 4, 5, 0]) (d := 8) (Vw.Is.eq (by refine Bool.rec (Bool.rec ?_ ?_ lay) (Bool.rec ?_ ?_ lay) b <;> and_intros <;> kernel_rfl)) rfl (next)) S₀
end
theorem St.same {B : Base} {h h' : Heap} {l : Led} {n : Nat} {a : Addr} (S : St B h l n) (hs : Heap.SameBut a h h') (ha : ∀ p ∈ l, p.1 ≠ a) (hb : B.h₀.objs.size ≤ a) : St B h' l n := by
 refine ⟨by rw [hs.1, S.size], S.low, fun b o e q => ?_, fun p hp => (hs.2 _ (ha p hp)).trans (S.led p hp), S.nodup, S.own⟩
 refine (hs.2 b ?_).trans (S.keep b o e q)
 rintro rfl
 exact absurd (Heap.lt_size e) (Nat.not_lt.mpr hb)
theorem St.ext {B : Base} {h h' : Heap} {l : Led} {n : Nat} {a : Addr} (S : St B h l n) (hs : Heap.ExtBut a h h') (ha : ∀ p ∈ l, p.1 ≠ a) (hb : B.h₀.objs.size ≤ a) (hn : B.h₀.objs.size ≤ h'.objs.size) : St B h' l h'.objs.size := by
 refine ⟨rfl, hn, fun b o e q => ?_, fun p hp => hs _ _ (ha p hp) (S.led p hp), S.nodup, S.own⟩
 refine hs b o ?_ (S.keep b o e q)
 rintro rfl
 exact absurd (Heap.lt_size e) (Nat.not_lt.mpr hb)
theorem sum_loop {B : Base} {A : Around} {R : Result → Shared → Prop} {dr : Drawn} {os : OsState} {gl : List GenState} {I sp l : Addr} {xs : List (Int × Nat)} {ep : Nat} {r : Led} (hA : A.handled = none) (hb : ∀ p ∈ xs, -1000 ≤ p.1 ∧ p.1 ≤ 1000) (hz : xs.length < 1000)
  (hI : B.h₀.objs.size ≤ I) (hsp : B.h₀.objs.size ≤ sp) (hne : I ≠ sp) (hne2 : l ≠ I) (hIr : ∀ p ∈ (l, listO (intW xs) ep) :: r, p.1 ≠ I) (hsr : ∀ p ∈ (l, listO (intW xs) ep) :: r, p.1 ≠ sp) :
  ∀ (rest : List (Int × Nat)) (i n t se tm : Nat) (m : Int) (h : Heap), xs.drop i = rest → (-1000 * i ≤ m ∧ m ≤ 1000 * i) → h.IsListIter I l i → h.get? sp = some (listO [.int m tm] se) →
   St B h ((l, listO (intW xs) ep) :: r) n →
   (∀ h' n' t' tk, St B h' ((l, listO (intW xs) ep) :: r) n' → R (.ok (.ret (.int (rest.foldl (fun a p => a + p.1) m) tk))) (sh h' gl dr t' os)) →
   codeAny (model B.V.prog B.V.w) A (bi "sum.loop" [.ref I, .ref sp, rawInt 0, rawInt 0]) R (sh h gl dr t os) := by
 intro rest
 induction rest with
 | nil =>
  intro i n t se tm m h hd hm hit hS S next
  have hl : h.IsList l ⟨intW xs⟩ := ⟨_, S.led _ (.head _), rfl, ep, rfl⟩
  refine codeAny_builtin F.entry_sum_loop ?_
  rw [Around.under_plainId F.plain_sum_loop _]
  show wpAny _ A.in1 (seqItems? (.ref sp) >>= _) _ _ _
  refine wpAny_bind (wpAny_seqItems hS rfl ?_)
  show wpAny _ A.in1 (tryCatch (pyNext (.ref I)) _ >>= _) _ _ _
  have hx : (⟨intW xs⟩ : Array Value)[i]? = none := by
   have : xs.length ≤ i := by simpa using hd
   simp [intW]
   exact this
  refine wpAny_bind (wpAny_tryCatch (wpAny_pyNext_list_end (A := A.in1) hA hit hl hx fun h' hk => ?_))
  have hS' := hk sp _ (Ne.symm hne) hS
  exact wpAny_pure (next h' _ t tm (S.ext hk hIr hI (Nat.le_of_lt (Nat.lt_of_le_of_lt hsp (Heap.lt_size hS')))))
 | cons p rest ih =>
  intro i n t se tm m h hd hm hit hS S next
  have hl : h.IsList l ⟨intW xs⟩ := ⟨_, S.led _ (.head _), rfl, ep, rfl⟩
  refine codeAny_builtin F.entry_sum_loop ?_
  rw [Around.under_plainId F.plain_sum_loop _]
  show wpAny _ A.in1 (seqItems? (.ref sp) >>= _) _ _ _
  refine wpAny_bind (wpAny_seqItems hS rfl ?_)
  show wpAny _ A.in1 (tryCatch (pyNext (.ref I)) _ >>= _) _ _ _
  obtain ⟨hx, hd'⟩ := drop_cons_get hd
  have hx' : (⟨intW xs⟩ : Array Value)[i]? = some (.int p.1 p.2) := by simpa using intW_get hx
  have hp : -1000 ≤ p.1 ∧ p.1 ≤ 1000 := hb p (List.mem_of_getElem? hx)
  have hi : i < xs.length := (List.getElem?_eq_some_iff.mp hx).1
  refine wpAny_bind (wpAny_tryCatch (wpAny_pyNext_list_item (A := A.in1) hit hl hx' fun h' hit' hk => ?_))
  have hS' : h'.get? sp = some (listO [.int m tm] se) := (hk.2 sp (Ne.symm hne)).trans hS
  have S' := S.same hk hIr hI
  have hc : ((decide (-(2 ^ 63) ≤ p.1) && decide (p.1 < 2 ^ 63)) && (decide (-(2 ^ 63) ≤ m + p.1) && decide (m + p.1 < 2 ^ 63))) = true := by
   simp only [Bool.and_eq_true, decide_eq_true_eq]
   obtain ⟨m1, m2⟩ := hm
   obtain ⟨p1, p2⟩ := hp
   refine ⟨⟨?_, ?_⟩, ?_, ?_⟩ <;> lia
  show wpAny _ A.in1 (if (_ : Bool) = true then (mkInt (m + p.1) >>= _) else _) _ _ _
  split
  ·refine wpAny_bind (wpAny_mkInt ?_)
   show wpAny _ A.in1 (updateSeq sp (fun _ => #[.int (m + p.1) t]) >>= _) _ _ _
   refine wpAny_bind ?_
   refine wpAny_updateSeq hS' rfl (wpAny_pure ⟨plainId_quiet F.plain_sum_loop _, ?_⟩)
   have e1 : (h'.update sp (Obj.mapSeq fun _ => #[.int (m + p.1) t])).get? sp = some (listO [.int (m + p.1) t] se) := by
    have := Heap.get?_update_self (Obj.mapSeq fun _ => #[.int (m + p.1) t]) hS' rfl
    simpa [listO, Obj.mapSeq] using this
   have hk2 : Heap.SameBut sp h' (h'.update sp (Obj.mapSeq fun _ => #[.int (m + p.1) t])) := Heap.SameBut.update ..
   have hit2 : (h'.update sp (Obj.mapSeq fun _ => #[.int (m + p.1) t])).IsListIter I l (i + 1) := by
    obtain ⟨o, ho, hc1, hd1⟩ := hit'
    exact ⟨o, (hk2.2 I hne).trans ho, hc1, hd1⟩
   exact ih (i + 1) n _ se t (m + p.1) _ hd' (by
    obtain ⟨m1, m2⟩ := hm
    obtain ⟨p1, p2⟩ := hp
    constructor <;> lia) hit2 e1 (S'.same hk2 hsr hsp) next
  ·rename_i hneg
   exact absurd hc hneg
section
variable {h₀ : HS} {w : World} {b : Bool} (O : (Bw w b h₀).Ok) {A₀ : Around} (hA : AOk A₀ 140) {R : Result → Shared → Prop} {dr : Drawn} {os : OsState} {h : Heap}
include O hA
theorem sumS_t {l ep n t : Nat} {vs : List Value} {r : Led} {gl : List GenState} (S₀ : St (Bw w b h₀) h ((l + 186, listO vs ep) :: r) (n + 186))
  (next : ∀ h' t', St (Bw w b h₀) h' ((n + 186, lI (l + 186) 0) :: (n + 187, listO [.int 0 t] 0) :: (l + 186, listO vs ep) :: r) ((n + 188)) → cA w b A₀ (bi "sum.loop" [.ref (n + 186), .ref (n + 187), rawInt 0, rawInt 0]) R (sh h' gl dr t' os)) :
  cA w b A₀ (bi "sum" [.ref (l + 186)]) R (sh h gl dr t os) := by
 exact code_run (f := 17) (ls := [1, 1, 1, 1]) (qs := [(2, .cut)]) O hA  (aC trivial <| aN) (fine_loop (is := [1, 0, 2]) (d := 3) (Vw.Is.eq (by refine Bool.rec ?_ ?_ b <;> and_intros <;> kernel_rfl)) rfl (next)) S₀
end
theorem gap_sum {h₀ : HS} {w : World} {b : Bool} (O : (Bw w b h₀).Ok) {A : Around} {l ep K : Nat} {idx : List Nat} {xs : List (Int × Nat)} {m : Int} (hA : AOk A (140 + 5 * K)) (hsz : 186 ≤ h₀.h.objs.size) (hi : idx.Nodup) (hb : ∀ p ∈ xs, -1000 ≤ p.1 ∧ p.1 ≤ 1000) (hz : xs.length < 1000) (hm : xs.foldl (fun a p => a + p.1) 0 = m) :
  GapOk (Bw w b h₀) A K idx [(l + 186, listO (intW xs) ep)] (bi "sum" [.ref (l + 186)]) (fun φ => .ok (.ret (.int m (φ 2)))) (fun _ => []) := by
 subst hm
 refine gap_of hi hsz fun κ h gl dr t os R r n hd' hk S next => ?_
 have hA2 : AOk (arnd A κ) 140 := AOk.over (d := 140) (hA.le (by lia)) hd'
 refine sumS_t O hA2 S fun h' t' S' => ?_
 have nd := S'.nodup
 simp only [List.map_cons, List.nodup_cons] at nd
 obtain ⟨n1, n2, n3, n4⟩ := nd
 have low : (Bw w b h₀).h₀.objs.size ≤ n + 186 := S.low
 refine sum_loop (I := n + 186) (sp := n + 187) hA2.handled hb hz low (Nat.le_succ_of_le low) (Nat.ne_of_lt (Nat.lt_succ_self _)) ?_ ?_ ?_ xs 0 (n + 188) t' 0 _ 0 h' rfl (by simp) ⟨_, S'.led _ (.head _), rfl, rfl⟩ (S'.led _ (.tail _ (.head _))) S'.tl.tl fun h' n' t' tk S2 => ?_
 ·intro e
  exact n1 (by rw [e]; simp)
 ·intro p hp e
  apply n1
  rw [← e]
  simp only [List.mem_cons]
  rcases List.mem_cons.mp hp with rfl | hp
  ·exact .inr (.inl rfl)
  ·exact .inr (.inr (List.mem_map_of_mem hp))
 ·intro p hp e
  apply n2
  rw [← e]
  simp only [List.mem_cons]
  rcases List.mem_cons.mp hp with rfl | hp
  ·exact .inl rfl
  ·exact .inr (List.mem_map_of_mem hp)
 ·have hn : n' = (n' - 186) + 186 := by
   have := S2.low
   have h2 : 186 ≤ (Bw w b h₀).h₀.objs.size := hsz
   lia
  rw [hn] at S2
  exact next (fun i => match i with
   | 0 => n' - 186
   | 1 => t'
   | _ => tk) h' S2
noncomputable def minN : List Nat → Nat → Nat
 | [], m => m
 | x :: l, m => minN l (min x m)
noncomputable def wZ (l : PL) : List (Int × Nat) := l.map fun p => (Int.ofNat p.1, p.2)
theorem intV_Z (l : PL) : intV l = intW (wZ l) := by simp [intV, intW, wZ]
theorem minOf_N : ∀ (l : PL) (m : Nat), minOf (wZ l) (Int.ofNat m) = Int.ofNat (minN (l.map (·.1)) m)
 | [], m => rfl
 | p :: l, m => by
  show minOf (wZ l) (if Int.ofNat p.1 < Int.ofNat m then Int.ofNat p.1 else Int.ofNat m) = Int.ofNat (minN (l.map (·.1)) (min p.1 m))
  rw [← minOf_N l]
  congr 1
  split <;> rename_i h <;> simp at h ⊢ <;> lia
theorem foldl_N : ∀ (l : PL) (m : Int), (wZ l).foldl (fun a p => a + p.1) m = m + Int.ofNat (l.map (·.1)).sum
 | [], m => by simp [wZ]
 | p :: l, m => by
  show (wZ l).foldl (fun a p => a + p.1) (m + Int.ofNat p.1) = _
  rw [foldl_N l]
  simp
  lia
theorem gap_minN {h₀ : HS} {w : World} {b : Bool} (O : (Bw w b h₀).Ok) {A : Around} {a ep K m : Nat} {p : Nat × Nat} {rest : PL} {idx : List Nat} (hA : AOk A (140 + 5 * K)) (hsz : 186 ≤ h₀.h.objs.size) (hi : idx.Nodup) (hm : minN (rest.map (·.1)) p.1 = m) :
  GapOk (Bw w b h₀) A K idx [(a + 186, listO (intV (p :: rest)) ep)] (bi "min" [.ref (a + 186)]) (fun φ => .ok (.ret (.int (Int.ofNat m) (φ 2)))) (fun _ => []) := by
 rw [intV_Z]
 exact gap_min (p := (Int.ofNat p.1, p.2)) (rest := wZ rest) O hA hsz hi ((minOf_N rest p.1).trans (congrArg Int.ofNat hm))
theorem gap_sumN {h₀ : HS} {w : World} {b : Bool} (O : (Bw w b h₀).Ok) {A : Around} {a ep K m : Nat} {l : PL} {idx : List Nat} (hA : AOk A (140 + 5 * K)) (hsz : 186 ≤ h₀.h.objs.size) (hi : idx.Nodup) (hb : ∀ p ∈ l, p.1 ≤ 1000) (hz : l.length < 1000) (hm : (l.map (·.1)).sum = m) :
  GapOk (Bw w b h₀) A K idx [(a + 186, listO (intV l) ep)] (bi "sum" [.ref (a + 186)]) (fun φ => .ok (.ret (.int (Int.ofNat m) (φ 2)))) (fun _ => []) := by
 rw [intV_Z]
 refine gap_sum O hA hsz hi (fun p hp => ?_) (by simpa [wZ] using hz) (by rw [foldl_N, hm]; simp)
 unfold wZ at hp
 obtain ⟨q, hq, rfl⟩ := List.mem_map.mp hp
 have := hb q hq
 simp
 lia
section
variable {h₀ : HS} {w : World} {b : Bool} (O : (Bw w b h₀).Ok) {A₀ : Around} (hA : AOk A₀ 300) {R : Result → Shared → Prop} {dr : Drawn} {os : OsState} {h : Heap}
include O hA
theorem le_t {dw n t : Nat} {wv wt mn sg L : Nat → Nat} {r : Led} {gl : List GenState} (hsz : 186 ≤ h₀.h.objs.size) (hw : ∀ i, wv i ≤ 1000) (hm0 : minN [] (0) = mn 0) (hs0 : [(wv 0), (wv 1)].sum = sg 0) (hm1 : minN [] (0) = mn 1) (hs1 : [(wv 1), (wv 2)].sum = sg 1) (hm2 : minN [] (0) = mn 2) (hs2 : [(wv 2), (wv 3)].sum = sg 2) (hm3 : minN [] (0) = mn 3) (hs3 : [(wv 3), (wv 4)].sum = sg 3) (hm4 : minN [] (0) = mn 4) (hs4 : [(wv 4), (wv 5)].sum = sg 4) (hm5 : minN [(L 0)] ((0 + L 1)) = mn 5) (hs5 : [(wv 0), (wv 1), (wv 2)].sum = sg 5) (hm6 : minN [(L 1)] ((0 + L 2)) = mn 6) (hs6 : [(wv 1), (wv 2), (wv 3)].sum = sg 6) (hm7 : minN [(L 2)] ((0 + L 3)) = mn 7) (hs7 : [(wv 2), (wv 3), (wv 4)].sum = sg 7) (hm8 : minN [(L 3)] ((0 + L 4)) = mn 8) (hs8 : [(wv 3), (wv 4), (wv 5)].sum = sg 8) (hm9 : minN [(L 0 + L 2), (L 5)] ((0 + L 6)) = mn 9) (hs9 : [(wv 0), (wv 1), (wv 2), (wv 3)].sum = sg 9) (hm10 : minN [(L 1 + L 3), (L 6)] ((0 + L 7)) = mn 10) (hs10 : [(wv 1), (wv 2), (wv 3), (wv 4)].sum = sg 10) (hm11 : minN [(L 2 + L 4), (L 7)] ((0 + L 8)) = mn 11) (hs11 : [(wv 2), (wv 3), (wv 4), (wv 5)].sum = sg 11) (hm12 : minN [(L 0 + L 7), (L 5 + L 3), (L 9)] ((0 + L 10)) = mn 12) (hs12 : [(wv 0), (wv 1), (wv 2), (wv 3), (wv 4)].sum = sg 12) (hm13 : minN [(L 1 + L 8), (L 6 + L 4), (L 10)] ((0 + L 11)) = mn 13) (hs13 : [(wv 1), (wv 2), (wv 3), (wv 4), (wv 5)].sum = sg 13) (hm14 : minN [(L 0 + L 11), (L 5 + L 8), (L 9 + L 4), (L 12)] ((0 + L 13)) = mn 14) (hs14 : [(wv 0), (wv 1), (wv 2), (wv 3), (wv 4), (wv 5)].sum = sg 14) (hL0 : mn 0 + sg 0 = L 0) (hL1 : mn 1 + sg 1 = L 1) (hL2 : mn 2 + sg 2 = L 2) (hL3 : mn 3 + sg 3 = L 3) (hL4 : mn 4 + sg 4 = L 4) (hL5 : mn 5 + sg 5 = L 5) (hL6 : mn 6 + sg 6 = L 6) (hL7 : mn 7 + sg 7 = L 7) (hL8 : mn 8 + sg 8 = L 8) (hL9 : mn 9 + sg 9 = L 9) (hL10 : mn 10 + sg 10 = L 10) (hL11 : mn 11 + sg 11 = L 11) (hL12 : mn 12 + sg 12 = L 12) (hL13 : mn 13 + sg 13 = L 13) (hL14 : mn 14 + sg 14 = L 14) (S₀ : St (Bw w b h₀) h ((dw + 186, listO [.int (Int.ofNat (wv 0)) (wt 0), .int (Int.ofNat (wv 1)) (wt 1), .int (Int.ofNat (wv 2)) (wt 2), .int (Int.ofNat (wv 3)) (wt 3), .int (Int.ofNat (wv 4)) (wt 4), .int (Int.ofNat (wv 5)) (wt 5)] 6) :: r) (n + 186))
  (next : ∀ ps0 : Nat → SX, ∀ h' t', St (Bw w b h₀) h' ((dw + 186, listO [.int (Int.ofNat (wv 0)) (wt 0), .int (Int.ofNat (wv 1)) (wt 1), .int (Int.ofNat (wv 2)) (wt 2), .int (Int.ofNat (wv 3)) (wt 3), .int (Int.ofNat (wv 4)) (wt 4), .int (Int.ofNat (wv 5)) (wt 5)] 6) :: r) (((SX.fresh (ps0 29)) 0 + 190)) → R (.ok (.ret (.int (Int.ofNat (L 14)) ((SX.fresh (ps0 29)) 1)))) (sh h' gl dr t' os)) :
  cA w b A₀ (Code.call (.ref 180) ⟨[.ref (dw + 186)], []⟩) R (sh h gl dr t os) := by
 exact code_run (f := 6965) (ls := [0, 0, 4, 4, 0, 0, 0, 1, 1, 1, 1, 1, 1, 1, 1, 1, 1, 1, 3, 3, 3, 3, 3, 3, 3, 3, 3, 3, 1, 1, 1, 1, 1, 1, 1, 4, 4, 4, 4, 5, 5, 5, 5, 5, 5, 5, 5, 5, 3, 3, 1, 1, 1, 1, 1, 6, 6, 6, 6, 7, 7, 7, 7, 7, 7, 7, 7, 7, 5, 5, 1, 1, 1, 1, 1, 8, 8, 8, 8, 9, 9, 9, 9, 9, 9, 9, 9, 9, 7, 7, 1, 1, 1, 1, 1, 10, 10, 10, 10, 11, 11, 11, 11, 11, 11, 11, 11, 11, 9, 9, 1, 1, 1, 1, 1, 12, 12, 12, 12, 13, 13, 13, 13, 13, 13, 13, 13, 13, 11, 11, 1, 1, 1, 1, 1, 14, 14, 14, 14, 15, 15, 15, 15, 15, 15, 15, 15, 15, 13, 13, 1, 1, 1, 1, 1, 16, 16, 16, 16, 17, 17, 17, 17, 17, 1, 17, 17, 17, 22, 22, 0, 0, 1, 1, 1, 1, 1, 1, 1, 1, 1, 1, 1, 1, 1, 1, 1, 1, 1, 1, 1, 1, 23, 23, 0, 0, 23, 1, 1, 1, 1, 1, 1, 1, 1, 1, 1, 1, 1, 1, 1, 1, 1, 1, 1, 1, 1, 27, 27, 0, 0, 27, 27, 25, 1, 1, 1, 1, 1, 1, 1, 1, 1, 1, 1, 3, 3, 3, 3, 3, 3, 3, 3, 3, 3, 1, 1, 30, 31, 26, 26, 26, 26, 26, 1, 23, 23, 23, 23, 23, 30, 1, 26, 26, 26, 26, 26, 31, 29, 21, 21, 21, 21, 21, 2, 2, 2, 2, 3, 3, 3, 3, 3, 1, 34, 34, 3, 3, 3, 0, 0, 34, 0, 0, 34, 33, 33, 31, 36, 36, 36, 36, 1, 1, 1, 1, 1, 36, 34, 35, 30, 30, 30, 30, 30, 35, 33, 27, 27, 27, 27, 27, 27, 9, 9, 9, 9, 9, 9, 9, 9, 9, 35, 35, 0, 0, 35, 35, 33, 1, 1, 1, 1, 1, 1, 1, 1, 1, 1, 1, 3, 3, 3, 3, 3, 3, 3, 3, 3, 3, 1, 1, 38, 39, 34, 34, 34, 34, 34, 1, 29, 29, 29, 29, 29, 38, 1, 34, 34, 34, 34, 34, 39, 37, 27, 27, 27, 27, 27, 2, 2, 2, 2, 3, 3, 3, 3, 3, 1, 42, 42, 3, 3, 3, 0, 0, 42, 0, 0, 42, 41, 41, 39, 44, 44, 44, 44, 1, 1, 1, 1, 1, 44, 42, 43, 38, 38, 38, 38, 38, 43, 41, 33, 33, 33, 33, 33, 33, 17, 17, 17, 17, 17, 17, 17, 17, 17, 43, 43, 0, 0, 43, 43, 41, 1, 1, 1, 1, 1, 1, 1, 1, 1, 1, 1, 3, 3, 3, 3, 3, 3, 3, 3, 3, 3, 1, 1, 46, 47, 42, 42, 42, 42, 42, 1, 35, 35, 35, 35, 35, 46, 1, 42, 42, 42, 42, 42, 47, 45, 33, 33, 33, 33, 33, 2, 2, 2, 2, 3, 3, 3, 3, 3, 1, 50, 50, 3, 3, 3, 0, 0, 50, 0, 0, 50, 49, 49, 47, 52, 52, 52, 52, 1, 1, 1, 1, 1, 52, 50, 51, 46, 46, 46, 46, 46, 51, 49, 39, 39, 39, 39, 39, 39, 25, 25, 25, 25, 25, 25, 25, 25, 25, 51, 51, 0, 0, 51, 51, 49, 1, 1, 1, 1, 1, 1, 1, 1, 1, 1, 1, 3, 3, 3, 3, 3, 3, 3, 3, 3, 3, 1, 1, 54, 55, 50, 50, 50, 50, 50, 1, 41, 41, 41, 41, 41, 54, 1, 50, 50, 50, 50, 50, 55, 53, 39, 39, 39, 39, 39, 2, 2, 2, 2, 3, 3, 3, 3, 3, 1, 58, 58, 3, 3, 3, 0, 0, 58, 0, 0, 58, 57, 57, 55, 60, 60, 60, 60, 1, 1, 1, 1, 1, 60, 58, 59, 54, 54, 54, 54, 54, 59, 57, 45, 45, 45, 45, 45, 45, 33, 33, 33, 33, 33, 33, 33, 33, 33, 59, 59, 0, 0, 59, 59, 57, 1, 1, 1, 1, 1, 1, 1, 1, 1, 1, 1, 3, 3, 3, 3, 3, 3, 3, 3, 3, 3, 1, 1, 62, 63, 58, 58, 58, 58, 58, 1, 47, 47, 47, 47, 47, 62, 1, 58, 58, 58, 58, 58, 63, 61, 45, 45, 45, 45, 45, 2, 2, 2, 2, 3, 3, 3, 3, 3, 1, 66, 66, 3, 3, 3, 0, 0, 66, 0, 0, 66, 65, 65, 63, 68, 68, 68, 68, 1, 1, 1, 1, 1, 68, 66, 67, 62, 62, 62, 62, 62, 67, 65, 51, 51, 51, 51, 51, 51, 41, 41, 41, 41, 41, 1, 45, 45, 45, 45, 45, 45, 45, 45, 45, 67, 67, 0, 0, 67, 1, 1, 1, 1, 1, 1, 1, 1, 1, 1, 1, 1, 1, 1, 1, 1, 1, 1, 1, 1, 71, 71, 0, 0, 71, 71, 69, 1, 1, 1, 1, 1, 1, 1, 1, 1, 1, 1, 3, 3, 3, 3, 3, 3, 3, 3, 3, 3, 1, 1, 74, 75, 70, 70, 70, 70, 70, 1, 67, 67, 67, 67, 67, 74, 1, 70, 70, 70, 70, 70, 75, 73, 65, 65, 65, 65, 65, 2, 2, 2, 2, 3, 3, 3, 3, 3, 3, 3, 3, 3, 1, 1, 74, 75, 70, 70, 70, 70, 70, 1, 67, 67, 67, 67, 67, 74, 1, 70, 70, 70, 70, 70, 75, 73, 63, 63, 63, 63, 63, 2, 2, 2, 2, 3, 3, 3, 3, 3, 1, 78, 78, 3, 3, 3, 0, 0, 78, 0, 0, 78, 77, 77, 75, 80, 80, 80, 80, 1, 1, 1, 1, 1, 80, 78, 79, 74, 74, 74, 74, 74, 79, 77, 71, 71, 71, 71, 71, 71, 9, 9, 9, 9, 9, 9, 9, 9, 9, 79, 79, 0, 0, 79, 79, 77, 1, 1, 1, 1, 1, 1, 1, 1, 1, 1, 1, 3, 3, 3, 3, 3, 3, 3, 3, 3, 3, 1, 1, 82, 83, 78, 78, 78, 78, 78, 1, 73, 73, 73, 73, 73, 82, 1, 78, 78, 78, 78, 78, 83, 81, 71, 71, 71, 71, 71, 2, 2, 2, 2, 3, 3, 3, 3, 3, 3, 3, 3, 3, 1, 1, 82, 83, 78, 78, 78, 78, 78, 1, 73, 73, 73, 73, 73, 82, 1, 78, 78, 78, 78, 78, 83, 81, 69, 69, 69, 69, 69, 2, 2, 2, 2, 3, 3, 3, 3, 3, 1, 86, 86, 3, 3, 3, 0, 0, 86, 0, 0, 86, 85, 85, 83, 88, 88, 88, 88, 1, 1, 1, 1, 1, 88, 86, 87, 82, 82, 82, 82, 82, 87, 85, 77, 77, 77, 77, 77, 77, 17, 17, 17, 17, 17, 17, 17, 17, 17, 87, 87, 0, 0, 87, 87, 85, 1, 1, 1, 1, 1, 1, 1, 1, 1, 1, 1, 3, 3, 3, 3, 3, 3, 3, 3, 3, 3, 1, 1, 90, 91, 86, 86, 86, 86, 86, 1, 79, 79, 79, 79, 79, 90, 1, 86, 86, 86, 86, 86, 91, 89, 77, 77, 77, 77, 77, 2, 2, 2, 2, 3, 3, 3, 3, 3, 3, 3, 3, 3, 1, 1, 90, 91, 86, 86, 86, 86, 86, 1, 79, 79, 79, 79, 79, 90, 1, 86, 86, 86, 86, 86, 91, 89, 75, 75, 75, 75, 75, 2, 2, 2, 2, 3, 3, 3, 3, 3, 1, 94, 94, 3, 3, 3, 0, 0, 94, 0, 0, 94, 93, 93, 91, 96, 96, 96, 96, 1, 1, 1, 1, 1, 96, 94, 95, 90, 90, 90, 90, 90, 95, 93, 83, 83, 83, 83, 83, 83, 25, 25, 25, 25, 25, 25, 25, 25, 25, 95, 95, 0, 0, 95, 95, 93, 1, 1, 1, 1, 1, 1, 1, 1, 1, 1, 1, 3, 3, 3, 3, 3, 3, 3, 3, 3, 3, 1, 1, 98, 99, 94, 94, 94, 94, 94, 1, 85, 85, 85, 85, 85, 98, 1, 94, 94, 94, 94, 94, 99, 97, 83, 83, 83, 83, 83, 2, 2, 2, 2, 3, 3, 3, 3, 3, 3, 3, 3, 3, 1, 1, 98, 99, 94, 94, 94, 94, 94, 1, 85, 85, 85, 85, 85, 98, 1, 94, 94, 94, 94, 94, 99, 97, 81, 81, 81, 81, 81, 2, 2, 2, 2, 3, 3, 3, 3, 3, 1, 102, 102, 3, 3, 3, 0, 0, 102, 0, 0, 102, 101, 101, 99, 104, 104, 104, 104, 1, 1, 1, 1, 1, 104, 102, 103, 98, 98, 98, 98, 98, 103, 101, 89, 89, 89, 89, 89, 89, 33, 33, 33, 33, 33, 1, 81, 81, 81, 81, 81, 81, 81, 81, 81, 103, 103, 0, 0, 103, 1, 1, 1, 1, 1, 1, 1, 1, 1, 1, 1, 1, 1, 1, 1, 1, 1, 1, 1, 1, 107, 107, 0, 0, 107, 107, 105, 1, 1, 1, 1, 1, 1, 1, 1, 1, 1, 1, 3, 3, 3, 3, 3, 3, 3, 3, 3, 3, 1, 1, 110, 111, 106, 106, 106, 106, 106, 1, 103, 103, 103, 103, 103, 110, 1, 106, 106, 106, 106, 106, 111, 109, 101, 101, 101, 101, 101, 2, 2, 2, 2, 3, 3, 3, 3, 3, 3, 3, 3, 3, 1, 1, 110, 111, 106, 106, 106, 106, 106, 1, 103, 103, 103, 103, 103, 110, 1, 106, 106, 106, 106, 106, 111, 109, 99, 99, 99, 99, 99, 2, 2, 2, 2, 3, 3, 3, 3, 3, 3, 3, 3, 3, 1, 1, 110, 111, 106, 106, 106, 106, 106, 1, 103, 103, 103, 103, 103, 110, 1, 106, 106, 106, 106, 106, 111, 109, 97, 97, 97, 97, 97, 2, 2, 2, 2, 3, 3, 3, 3, 3, 1, 114, 114, 3, 3, 3, 0, 0, 114, 0, 0, 114, 113, 113, 111, 116, 116, 116, 116, 1, 1, 1, 1, 1, 116, 114, 115, 110, 110, 110, 110, 110, 115, 113, 107, 107, 107, 107, 107, 107, 9, 9, 9, 9, 9, 9, 9, 9, 9, 115, 115, 0, 0, 115, 115, 113, 1, 1, 1, 1, 1, 1, 1, 1, 1, 1, 1, 3, 3, 3, 3, 3, 3, 3, 3, 3, 3, 1, 1, 118, 119, 114, 114, 114, 114, 114, 1, 109, 109, 109, 109, 109, 118, 1, 114, 114, 114, 114, 114, 119, 117, 107, 107, 107, 107, 107, 2, 2, 2, 2, 3, 3, 3, 3, 3, 3, 3, 3, 3, 1, 1, 118, 119, 114, 114, 114, 114, 114, 1, 109, 109, 109, 109, 109, 118, 1, 114, 114, 114, 114, 114, 119, 117, 105, 105, 105, 105, 105, 2, 2, 2, 2, 3, 3, 3, 3, 3, 3, 3, 3, 3, 1, 1, 118, 119, 114, 114, 114, 114, 114, 1, 109, 109, 109, 109, 109, 118, 1, 114, 114, 114, 114, 114, 119, 117, 103, 103, 103, 103, 103, 2, 2, 2, 2, 3, 3, 3, 3, 3, 1, 122, 122, 3, 3, 3, 0, 0, 122, 0, 0, 122, 121, 121, 119, 124, 124, 124, 124, 1, 1, 1, 1, 1, 124, 122, 123, 118, 118, 118, 118, 118, 123, 121, 113, 113, 113, 113, 113, 113, 17, 17, 17, 17, 17, 17, 17, 17, 17, 123, 123, 0, 0, 123, 123, 121, 1, 1, 1, 1, 1, 1, 1, 1, 1, 1, 1, 3, 3, 3, 3, 3, 3, 3, 3, 3, 3, 1, 1, 126, 127, 122, 122, 122, 122, 122, 1, 115, 115, 115, 115, 115, 126, 1, 122, 122, 122, 122, 122, 127, 125, 113, 113, 113, 113, 113, 2, 2, 2, 2, 3, 3, 3, 3, 3, 3, 3, 3, 3, 1, 1, 126, 127, 122, 122, 122, 122, 122, 1, 115, 115, 115, 115, 115, 126, 1, 122, 122, 122, 122, 122, 127, 125, 111, 111, 111, 111, 111, 2, 2, 2, 2, 3, 3, 3, 3, 3, 3, 3, 3, 3, 1, 1, 126, 127, 122, 122, 122, 122, 122, 1, 115, 115, 115, 115, 115, 126, 1, 122, 122, 122, 122, 122, 127, 125, 109, 109, 109, 109, 109, 2, 2, 2, 2, 3, 3, 3, 3, 3, 1, 130, 130, 3, 3, 3, 0, 0, 130, 0, 0, 130, 129, 129, 127, 132, 132, 132, 132, 1, 1, 1, 1, 1, 132, 130, 131, 126, 126, 126, 126, 126, 131, 129, 119, 119, 119, 119, 119, 119, 25, 25, 25, 25, 25, 1, 109, 109, 109, 109, 109, 109, 109, 109, 109, 131, 131, 0, 0, 131, 1, 1, 1, 1, 1, 1, 1, 1, 1, 1, 1, 1, 1, 1, 1, 1, 1, 1, 1, 1, 135, 135, 0, 0, 135, 135, 133, 1, 1, 1, 1, 1, 1, 1, 1, 1, 1, 1, 3, 3, 3, 3, 3, 3, 3, 3, 3, 3, 1, 1, 138, 139, 134, 134, 134, 134, 134, 1, 131, 131, 131, 131, 131, 138, 1, 134, 134, 134, 134, 134, 139, 137, 129, 129, 129, 129, 129, 2, 2, 2, 2, 3, 3, 3, 3, 3, 3, 3, 3, 3, 1, 1, 138, 139, 134, 134, 134, 134, 134, 1, 131, 131, 131, 131, 131, 138, 1, 134, 134, 134, 134, 134, 139, 137, 127, 127, 127, 127, 127, 2, 2, 2, 2, 3, 3, 3, 3, 3, 3, 3, 3, 3, 1, 1, 138, 139, 134, 134, 134, 134, 134, 1, 131, 131, 131, 131, 131, 138, 1, 134, 134, 134, 134, 134, 139, 137, 125, 125, 125, 125, 125, 2, 2, 2, 2, 3, 3, 3, 3, 3, 3, 3, 3, 3, 1, 1, 138, 139, 134, 134, 134, 134, 134, 1, 131, 131, 131, 131, 131, 138, 1, 134, 134, 134, 134, 134, 139, 137, 123, 123, 123, 123, 123, 2, 2, 2, 2, 3, 3, 3, 3, 3, 1, 142, 142, 3, 3, 3, 0, 0, 142, 0, 0, 142, 141, 141, 139, 144, 144, 144, 144, 1, 1, 1, 1, 1, 144, 142, 143, 138, 138, 138, 138, 138, 143, 141, 135, 135, 135, 135, 135, 135, 9, 9, 9, 9, 9, 9, 9, 9, 9, 143, 143, 0, 0, 143, 143, 141, 1, 1, 1, 1, 1, 1, 1, 1, 1, 1, 1, 3, 3, 3, 3, 3, 3, 3, 3, 3, 3, 1, 1, 146, 147, 142, 142, 142, 142, 142, 1, 137, 137, 137, 137, 137, 146, 1, 142, 142, 142, 142, 142, 147, 145, 135, 135, 135, 135, 135, 2, 2, 2, 2, 3, 3, 3, 3, 3, 3, 3, 3, 3, 1, 1, 146, 147, 142, 142, 142, 142, 142, 1, 137, 137, 137, 137, 137, 146, 1, 142, 142, 142, 142, 142, 147, 145, 133, 133, 133, 133, 133, 2, 2, 2, 2, 3, 3, 3, 3, 3, 3, 3, 3, 3, 1, 1, 146, 147, 142, 142, 142, 142, 142, 1, 137, 137, 137, 137, 137, 146, 1, 142, 142, 142, 142, 142, 147, 145, 131, 131, 131, 131, 131, 2, 2, 2, 2, 3, 3, 3, 3, 3, 3, 3, 3, 3, 1, 1, 146, 147, 142, 142, 142, 142, 142, 1, 137, 137, 137, 137, 137, 146, 1, 142, 142, 142, 142, 142, 147, 145, 129, 129, 129, 129, 129, 2, 2, 2, 2, 3, 3, 3, 3, 3, 1, 150, 150, 3, 3, 3, 0, 0, 150, 0, 0, 150, 149, 149, 147, 152, 152, 152, 152, 1, 1, 1, 1, 1, 152, 150, 151, 146, 146, 146, 146, 146, 151, 149, 141, 141, 141, 141, 141, 141, 17, 17, 17, 17, 17, 1, 129, 129, 129, 129, 129, 129, 129, 129, 129, 151, 151, 0, 0, 151, 1, 1, 1, 1, 1, 1, 1, 1, 1, 1, 1, 1, 1, 1, 1, 1, 1, 1, 1, 1, 155, 155, 0, 0, 155, 155, 153, 1, 1, 1, 1, 1, 1, 1, 1, 1, 1, 1, 3, 3, 3, 3, 3, 3, 3, 3, 3, 3, 1, 1, 158, 159, 154, 154, 154, 154, 154, 1, 151, 151, 151, 151, 151, 158, 1, 154, 154, 154, 154, 154, 159, 157, 149, 149, 149, 149, 149, 2, 2, 2, 2, 3, 3, 3, 3, 3, 3, 3, 3, 3, 1, 1, 158, 159, 154, 154, 154, 154, 154, 1, 151, 151, 151, 151, 151, 158, 1, 154, 154, 154, 154, 154, 159, 157, 147, 147, 147, 147, 147, 2, 2, 2, 2, 3, 3, 3, 3, 3, 3, 3, 3, 3, 1, 1, 158, 159, 154, 154, 154, 154, 154, 1, 151, 151, 151, 151, 151, 158, 1, 154, 154, 154, 154, 154, 159, 157, 145, 145, 145, 145, 145, 2, 2, 2, 2, 3, 3, 3, 3, 3, 3, 3, 3, 3, 1, 1, 158, 159, 154, 154, 154, 154, 154, 1, 151, 151, 151, 151, 151, 158, 1, 154, 154, 154, 154, 154, 159, 157, 143, 143, 143, 143, 143, 2, 2, 2, 2, 3, 3, 3, 3, 3, 3, 3, 3, 3, 1, 1, 158, 159, 154, 154, 154, 154, 154, 1, 151, 151, 151, 151, 151, 158, 1, 154, 154, 154, 154, 154, 159, 157, 141, 141, 141, 141, 141, 2, 2, 2, 2, 3, 3, 3, 3, 3, 1, 162, 162, 3, 3, 3, 0, 0, 162, 0, 0, 162, 161, 161, 159, 164, 164, 164, 164, 1, 1, 1, 1, 1, 164, 162, 163, 158, 158, 158, 158, 158, 163, 161, 155, 155, 155, 155, 155, 155, 9, 9, 9, 9, 9, 1, 141, 141, 141, 141, 141, 1, 166, 162, 162, 162, 162, 162, 159, 159, 159, 159, 159]) (qs := [(136, .gap 4 [3] [((n + 216), listO [.int 0 (t + 48)] 1)] (bi "min" [.ref (n + 216)]) (fun φ => .ok (.ret (.int (Int.ofNat (mn 0)) (φ 2)))) (fun φ => []) (fun φ0 => [(5, .gap 4 [0] [((φ0 0 + 187), listO [.int (Int.ofNat (wv 0)) (wt 0), .int (Int.ofNat (wv 1)) (wt 1)] 0)] (bi "sum" [.ref (φ0 0 + 187)]) (fun φ => .ok (.ret (.int (Int.ofNat (sg 0)) (φ 2)))) (fun φ => []) (fun φ1 => [(1, .ora [] [] (bi "int.__add__" [.int (Int.ofNat (mn 0)) (φ0 2), .int (Int.ofNat (sg 0)) (φ1 2)]) (fun t => Value.int (Int.ofNat (L 0)) t) 1), (45, .gap 4 [3] [((φ1 0 + 188), listO [.int 0 (φ1 1 + 10)] 1)] (bi "min" [.ref (φ1 0 + 188)]) (fun φ => .ok (.ret (.int (Int.ofNat (mn 1)) (φ 2)))) (fun φ => []) (fun φ2 => [(5, .gap 4 [0] [((φ2 0 + 187), listO [.int (Int.ofNat (wv 1)) (wt 1), .int (Int.ofNat (wv 2)) (wt 2)] 0)] (bi "sum" [.ref (φ2 0 + 187)]) (fun φ => .ok (.ret (.int (Int.ofNat (sg 1)) (φ 2)))) (fun φ => []) (fun φ3 => [(1, .ora [] [] (bi "int.__add__" [.int (Int.ofNat (mn 1)) (φ2 2), .int (Int.ofNat (sg 1)) (φ3 2)]) (fun t => Value.int (Int.ofNat (L 1)) t) 1), (45, .gap 4 [3] [((φ3 0 + 188), listO [.int 0 (φ3 1 + 10)] 1)] (bi "min" [.ref (φ3 0 + 188)]) (fun φ => .ok (.ret (.int (Int.ofNat (mn 2)) (φ 2)))) (fun φ => []) (fun φ4 => [(5, .gap 4 [0] [((φ4 0 + 187), listO [.int (Int.ofNat (wv 2)) (wt 2), .int (Int.ofNat (wv 3)) (wt 3)] 0)] (bi "sum" [.ref (φ4 0 + 187)]) (fun φ => .ok (.ret (.int (Int.ofNat (sg 2)) (φ 2)))) (fun φ => []) (fun φ5 => [(1, .ora [] [] (bi "int.__add__" [.int (Int.ofNat (mn 2)) (φ4 2), .int (Int.ofNat (sg 2)) (φ5 2)]) (fun t => Value.int (Int.ofNat (L 2)) t) 1), (45, .gap 4 [3] [((φ5 0 + 188), listO [.int 0 (φ5 1 + 10)] 1)] (bi "min" [.ref (φ5 0 + 188)]) (fun φ => .ok (.ret (.int (Int.ofNat (mn 3)) (φ 2)))) (fun φ => []) (fun φ6 => [(5, .gap 4 [0] [((φ6 0 + 187), listO [.int (Int.ofNat (wv 3)) (wt 3), .int (Int.ofNat (wv 4)) (wt 4)] 0)] (bi "sum" [.ref (φ6 0 + 187)]) (fun φ => .ok (.ret (.int (Int.ofNat (sg 3)) (φ 2)))) (fun φ => []) (fun φ7 => [(1, .ora [] [] (bi "int.__add__" [.int (Int.ofNat (mn 3)) (φ6 2), .int (Int.ofNat (sg 3)) (φ7 2)]) (fun t => Value.int (Int.ofNat (L 3)) t) 1), (45, .gap 4 [3] [((φ7 0 + 188), listO [.int 0 (φ7 1 + 10)] 1)] (bi "min" [.ref (φ7 0 + 188)]) (fun φ => .ok (.ret (.int (Int.ofNat (mn 4)) (φ 2)))) (fun φ => []) (fun φ8 => [(5, .gap 4 [0] [((φ8 0 + 187), listO [.int (Int.ofNat (wv 4)) (wt 4), .int (Int.ofNat (wv 5)) (wt 5)] 0)] (bi "sum" [.ref (φ8 0 + 187)]) (fun φ => .ok (.ret (.int (Int.ofNat (sg 4)) (φ 2)))) (fun φ => []) (fun φ9 => [(1, .ora [] [] (bi "int.__add__" [.int (Int.ofNat (mn 4)) (φ8 2), .int (Int.ofNat (sg 4)) (φ9 2)]) (fun t => Value.int (Int.ofNat (L 4)) t) 1), (81, .gap 4 [3] [((φ9 0 + 192), listO [.int (Int.ofNat (0 + L 1)) (φ9 1 + 15), .int (Int.ofNat (L 0)) (φ9 1 + 19)] 2)] (bi "min" [.ref (φ9 0 + 192)]) (fun φ => .ok (.ret (.int (Int.ofNat (mn 5)) (φ 2)))) (fun φ => []) (fun φ10 => [(5, .gap 4 [0] [((φ10 0 + 187), listO [.int (Int.ofNat (wv 0)) (wt 0), .int (Int.ofNat (wv 1)) (wt 1), .int (Int.ofNat (wv 2)) (wt 2)] 0)] (bi "sum" [.ref (φ10 0 + 187)]) (fun φ => .ok (.ret (.int (Int.ofNat (sg 5)) (φ 2)))) (fun φ => []) (fun φ11 => [(1, .ora [] [] (bi "int.__add__" [.int (Int.ofNat (mn 5)) (φ10 2), .int (Int.ofNat (sg 5)) (φ11 2)]) (fun t => Value.int (Int.ofNat (L 5)) t) 1), (64, .gap 4 [3] [((φ11 0 + 188), listO [.int (Int.ofNat (0 + L 2)) (φ11 1 + 10), .int (Int.ofNat (L 1)) (φ11 1 + 14)] 2)] (bi "min" [.ref (φ11 0 + 188)]) (fun φ => .ok (.ret (.int (Int.ofNat (mn 6)) (φ 2)))) (fun φ => []) (fun φ12 => [(5, .gap 4 [0] [((φ12 0 + 187), listO [.int (Int.ofNat (wv 1)) (wt 1), .int (Int.ofNat (wv 2)) (wt 2), .int (Int.ofNat (wv 3)) (wt 3)] 0)] (bi "sum" [.ref (φ12 0 + 187)]) (fun φ => .ok (.ret (.int (Int.ofNat (sg 6)) (φ 2)))) (fun φ => []) (fun φ13 => [(1, .ora [] [] (bi "int.__add__" [.int (Int.ofNat (mn 6)) (φ12 2), .int (Int.ofNat (sg 6)) (φ13 2)]) (fun t => Value.int (Int.ofNat (L 6)) t) 1), (64, .gap 4 [3] [((φ13 0 + 188), listO [.int (Int.ofNat (0 + L 3)) (φ13 1 + 10), .int (Int.ofNat (L 2)) (φ13 1 + 14)] 2)] (bi "min" [.ref (φ13 0 + 188)]) (fun φ => .ok (.ret (.int (Int.ofNat (mn 7)) (φ 2)))) (fun φ => []) (fun φ14 => [(5, .gap 4 [0] [((φ14 0 + 187), listO [.int (Int.ofNat (wv 2)) (wt 2), .int (Int.ofNat (wv 3)) (wt 3), .int (Int.ofNat (wv 4)) (wt 4)] 0)] (bi "sum" [.ref (φ14 0 + 187)]) (fun φ => .ok (.ret (.int (Int.ofNat (sg 7)) (φ 2)))) (fun φ => []) (fun φ15 => [(1, .ora [] [] (bi "int.__add__" [.int (Int.ofNat (mn 7)) (φ14 2), .int (Int.ofNat (sg 7)) (φ15 2)]) (fun t => Value.int (Int.ofNat (L 7)) t) 1), (64, .gap 4 [3] [((φ15 0 + 188), listO [.int (Int.ofNat (0 + L 4)) (φ15 1 + 10), .int (Int.ofNat (L 3)) (φ15 1 + 14)] 2)] (bi "min" [.ref (φ15 0 + 188)]) (fun φ => .ok (.ret (.int (Int.ofNat (mn 8)) (φ 2)))) (fun φ => []) (fun φ16 => [(5, .gap 4 [0] [((φ16 0 + 187), listO [.int (Int.ofNat (wv 3)) (wt 3), .int (Int.ofNat (wv 4)) (wt 4), .int (Int.ofNat (wv 5)) (wt 5)] 0)] (bi "sum" [.ref (φ16 0 + 187)]) (fun φ => .ok (.ret (.int (Int.ofNat (sg 8)) (φ 2)))) (fun φ => []) (fun φ17 => [(1, .ora [] [] (bi "int.__add__" [.int (Int.ofNat (mn 8)) (φ16 2), .int (Int.ofNat (sg 8)) (φ17 2)]) (fun t => Value.int (Int.ofNat (L 8)) t) 1), (100, .gap 4 [3] [((φ17 0 + 192), listO [.int (Int.ofNat (0 + L 6)) (φ17 1 + 15), .int (Int.ofNat (L 0 + L 2)) (φ17 1 + 19), .int (Int.ofNat (L 5)) (φ17 1 + 23)] 3)] (bi "min" [.ref (φ17 0 + 192)]) (fun φ => .ok (.ret (.int (Int.ofNat (mn 9)) (φ 2)))) (fun φ => []) (fun φ18 => [(5, .gap 4 [0] [((φ18 0 + 187), listO [.int (Int.ofNat (wv 0)) (wt 0), .int (Int.ofNat (wv 1)) (wt 1), .int (Int.ofNat (wv 2)) (wt 2), .int (Int.ofNat (wv 3)) (wt 3)] 0)] (bi "sum" [.ref (φ18 0 + 187)]) (fun φ => .ok (.ret (.int (Int.ofNat (sg 9)) (φ 2)))) (fun φ => []) (fun φ19 => [(1, .ora [] [] (bi "int.__add__" [.int (Int.ofNat (mn 9)) (φ18 2), .int (Int.ofNat (sg 9)) (φ19 2)]) (fun t => Value.int (Int.ofNat (L 9)) t) 1), (83, .gap 4 [3] [((φ19 0 + 188), listO [.int (Int.ofNat (0 + L 7)) (φ19 1 + 10), .int (Int.ofNat (L 1 + L 3)) (φ19 1 + 14), .int (Int.ofNat (L 6)) (φ19 1 + 18)] 3)] (bi "min" [.ref (φ19 0 + 188)]) (fun φ => .ok (.ret (.int (Int.ofNat (mn 10)) (φ 2)))) (fun φ => []) (fun φ20 => [(5, .gap 4 [0] [((φ20 0 + 187), listO [.int (Int.ofNat (wv 1)) (wt 1), .int (Int.ofNat (wv 2)) (wt 2), .int (Int.ofNat (wv 3)) (wt 3), .int (Int.ofNat (wv 4)) (wt 4)] 0)] (bi "sum" [.ref (φ20 0 + 187)]) (fun φ => .ok (.ret (.int (Int.ofNat (sg 10)) (φ 2)))) (fun φ => []) (fun φ21 => [(1, .ora [] [] (bi "int.__add__" [.int (Int.ofNat (mn 10)) (φ20 2), .int (Int.ofNat (sg 10)) (φ21 2)]) (fun t => Value.int (Int.ofNat (L 10)) t) 1), (83, .gap 4 [3] [((φ21 0 + 188), listO [.int (Int.ofNat (0 + L 8)) (φ21 1 + 10), .int (Int.ofNat (L 2 + L 4)) (φ21 1 + 14), .int (Int.ofNat (L 7)) (φ21 1 + 18)] 3)] (bi "min" [.ref (φ21 0 + 188)]) (fun φ => .ok (.ret (.int (Int.ofNat (mn 11)) (φ 2)))) (fun φ => []) (fun φ22 => [(5, .gap 4 [0] [((φ22 0 + 187), listO [.int (Int.ofNat (wv 2)) (wt 2), .int (Int.ofNat (wv 3)) (wt 3), .int (Int.ofNat (wv 4)) (wt 4), .int (Int.ofNat (wv 5)) (wt 5)] 0)] (bi "sum" [.ref (φ22 0 + 187)]) (fun φ => .ok (.ret (.int (Int.ofNat (sg 11)) (φ 2)))) (fun φ => []) (fun φ23 => [(1, .ora [] [] (bi "int.__add__" [.int (Int.ofNat (mn 11)) (φ22 2), .int (Int.ofNat (sg 11)) (φ23 2)]) (fun t => Value.int (Int.ofNat (L 11)) t) 1), (119, .gap 4 [3] [((φ23 0 + 192), listO [.int (Int.ofNat (0 + L 10)) (φ23 1 + 15), .int (Int.ofNat (L 0 + L 7)) (φ23 1 + 19), .int (Int.ofNat (L 5 + L 3)) (φ23 1 + 23), .int (Int.ofNat (L 9)) (φ23 1 + 27)] 4)] (bi "min" [.ref (φ23 0 + 192)]) (fun φ => .ok (.ret (.int (Int.ofNat (mn 12)) (φ 2)))) (fun φ => []) (fun φ24 => [(5, .gap 4 [0] [((φ24 0 + 187), listO [.int (Int.ofNat (wv 0)) (wt 0), .int (Int.ofNat (wv 1)) (wt 1), .int (Int.ofNat (wv 2)) (wt 2), .int (Int.ofNat (wv 3)) (wt 3), .int (Int.ofNat (wv 4)) (wt 4)] 0)] (bi "sum" [.ref (φ24 0 + 187)]) (fun φ => .ok (.ret (.int (Int.ofNat (sg 12)) (φ 2)))) (fun φ => []) (fun φ25 => [(1, .ora [] [] (bi "int.__add__" [.int (Int.ofNat (mn 12)) (φ24 2), .int (Int.ofNat (sg 12)) (φ25 2)]) (fun t => Value.int (Int.ofNat (L 12)) t) 1), (102, .gap 4 [3] [((φ25 0 + 188), listO [.int (Int.ofNat (0 + L 11)) (φ25 1 + 10), .int (Int.ofNat (L 1 + L 8)) (φ25 1 + 14), .int (Int.ofNat (L 6 + L 4)) (φ25 1 + 18), .int (Int.ofNat (L 10)) (φ25 1 + 22)] 4)] (bi "min" [.ref (φ25 0 + 188)]) (fun φ => .ok (.ret (.int (Int.ofNat (mn 13)) (φ 2)))) (fun φ => []) (fun φ26 => [(5, .gap 4 [0] [((φ26 0 + 187), listO [.int (Int.ofNat (wv 1)) (wt 1), .int (Int.ofNat (wv 2)) (wt 2), .int (Int.ofNat (wv 3)) (wt 3), .int (Int.ofNat (wv 4)) (wt 4), .int (Int.ofNat (wv 5)) (wt 5)] 0)] (bi "sum" [.ref (φ26 0 + 187)]) (fun φ => .ok (.ret (.int (Int.ofNat (sg 13)) (φ 2)))) (fun φ => []) (fun φ27 => [(1, .ora [] [] (bi "int.__add__" [.int (Int.ofNat (mn 13)) (φ26 2), .int (Int.ofNat (sg 13)) (φ27 2)]) (fun t => Value.int (Int.ofNat (L 13)) t) 1), (138, .gap 4 [3] [((φ27 0 + 192), listO [.int (Int.ofNat (0 + L 13)) (φ27 1 + 15), .int (Int.ofNat (L 0 + L 11)) (φ27 1 + 19), .int (Int.ofNat (L 5 + L 8)) (φ27 1 + 23), .int (Int.ofNat (L 9 + L 4)) (φ27 1 + 27), .int (Int.ofNat (L 12)) (φ27 1 + 31)] 5)] (bi "min" [.ref (φ27 0 + 192)]) (fun φ => .ok (.ret (.int (Int.ofNat (mn 14)) (φ 2)))) (fun φ => []) (fun φ28 => [(5, .gap 4 [0] [((φ28 0 + 187), listO [.int (Int.ofNat (wv 0)) (wt 0), .int (Int.ofNat (wv 1)) (wt 1), .int (Int.ofNat (wv 2)) (wt 2), .int (Int.ofNat (wv 3)) (wt 3), .int (Int.ofNat (wv 4)) (wt 4), .int (Int.ofNat (wv 5)) (wt 5)] 0)] (bi "sum" [.ref (φ28 0 + 187)]) (fun φ => .ok (.ret (.int (Int.ofNat (sg 14)) (φ 2)))) (fun φ => []) (fun φ29 => [(1, .ora [] [] (bi "int.__add__" [.int (Int.ofNat (mn 14)) (φ28 2), .int (Int.ofNat (sg 14)) (φ29 2)]) (fun t => Value.int (Int.ofNat (L 14)) t) 1)]))]))]))]))]))]))]))]))]))]))]))]))]))]))]))]))]))]))]))]))]))]))]))]))]))]))]))]))]))]))]) O (hA.le (by lia))  (aC ⟨gap_minN (p := (0, _)) (rest := []) (a := _ + 30) O (hA.le (by lia)) hsz (by decide) hm0, fun φ => iG (gap_sumN (l := [((wv 0), _), ((wv 1), _)]) (a := _ + 1) O (hA.le (by lia)) hsz (by decide) (by simp [hw]) (by simp) hs0) (fun φ => iO (ora_add _ _ _ _ _ (by have := hL0; simp; lia)) <| iG (gap_minN (p := (0, _)) (rest := []) (a := _ + 2) O (hA.le (by lia)) hsz (by decide) hm1) (fun φ => iG (gap_sumN (l := [((wv 1), _), ((wv 2), _)]) (a := _ + 1) O (hA.le (by lia)) hsz (by decide) (by simp [hw]) (by simp) hs1) (fun φ => iO (ora_add _ _ _ _ _ (by have := hL1; simp; lia)) <| iG (gap_minN (p := (0, _)) (rest := []) (a := _ + 2) O (hA.le (by lia)) hsz (by decide) hm2) (fun φ => iG (gap_sumN (l := [((wv 2), _), ((wv 3), _)]) (a := _ + 1) O (hA.le (by lia)) hsz (by decide) (by simp [hw]) (by simp) hs2) (fun φ => iO (ora_add _ _ _ _ _ (by have := hL2; simp; lia)) <| iG (gap_minN (p := (0, _)) (rest := []) (a := _ + 2) O (hA.le (by lia)) hsz (by decide) hm3) (fun φ => iG (gap_sumN (l := [((wv 3), _), ((wv 4), _)]) (a := _ + 1) O (hA.le (by lia)) hsz (by decide) (by simp [hw]) (by simp) hs3) (fun φ => iO (ora_add _ _ _ _ _ (by have := hL3; simp; lia)) <| iG (gap_minN (p := (0, _)) (rest := []) (a := _ + 2) O (hA.le (by lia)) hsz (by decide) hm4) (fun φ => iG (gap_sumN (l := [((wv 4), _), ((wv 5), _)]) (a := _ + 1) O (hA.le (by lia)) hsz (by decide) (by simp [hw]) (by simp) hs4) (fun φ => iO (ora_add _ _ _ _ _ (by have := hL4; simp; lia)) <| iG (gap_minN (p := ((0 + L 1), _)) (rest := [((L 0), _)]) (a := _ + 6) O (hA.le (by lia)) hsz (by decide) hm5) (fun φ => iG (gap_sumN (l := [((wv 0), _), ((wv 1), _), ((wv 2), _)]) (a := _ + 1) O (hA.le (by lia)) hsz (by decide) (by simp [hw]) (by simp) hs5) (fun φ => iO (ora_add _ _ _ _ _ (by have := hL5; simp; lia)) <| iG (gap_minN (p := ((0 + L 2), _)) (rest := [((L 1), _)]) (a := _ + 2) O (hA.le (by lia)) hsz (by decide) hm6) (fun φ => iG (gap_sumN (l := [((wv 1), _), ((wv 2), _), ((wv 3), _)]) (a := _ + 1) O (hA.le (by lia)) hsz (by decide) (by simp [hw]) (by simp) hs6) (fun φ => iO (ora_add _ _ _ _ _ (by have := hL6; simp; lia)) <| iG (gap_minN (p := ((0 + L 3), _)) (rest := [((L 2), _)]) (a := _ + 2) O (hA.le (by lia)) hsz (by decide) hm7) (fun φ => iG (gap_sumN (l := [((wv 2), _), ((wv 3), _), ((wv 4), _)]) (a := _ + 1) O (hA.le (by lia)) hsz (by decide) (by simp [hw]) (by simp) hs7) (fun φ => iO (ora_add _ _ _ _ _ (by have := hL7; simp; lia)) <| iG (gap_minN (p := ((0 + L 4), _)) (rest := [((L 3), _)]) (a := _ + 2) O (hA.le (by lia)) hsz (by decide) hm8) (fun φ => iG (gap_sumN (l := [((wv 3), _), ((wv 4), _), ((wv 5), _)]) (a := _ + 1) O (hA.le (by lia)) hsz (by decide) (by simp [hw]) (by simp) hs8) (fun φ => iO (ora_add _ _ _ _ _ (by have := hL8; simp; lia)) <| iG (gap_minN (p := ((0 + L 6), _)) (rest := [((L 0 + L 2), _), ((L 5), _)]) (a := _ + 6) O (hA.le (by lia)) hsz (by decide) hm9) (fun φ => iG (gap_sumN (l := [((wv 0), _), ((wv 1), _), ((wv 2), _), ((wv 3), _)]) (a := _ + 1) O (hA.le (by lia)) hsz (by decide) (by simp [hw]) (by simp) hs9) (fun φ => iO (ora_add _ _ _ _ _ (by have := hL9; simp; lia)) <| iG (gap_minN (p := ((0 + L 7), _)) (rest := [((L 1 + L 3), _), ((L 6), _)]) (a := _ + 2) O (hA.le (by lia)) hsz (by decide) hm10) (fun φ => iG (gap_sumN (l := [((wv 1), _), ((wv 2), _), ((wv 3), _), ((wv 4), _)]) (a := _ + 1) O (hA.le (by lia)) hsz (by decide) (by simp [hw]) (by simp) hs10) (fun φ => iO (ora_add _ _ _ _ _ (by have := hL10; simp; lia)) <| iG (gap_minN (p := ((0 + L 8), _)) (rest := [((L 2 + L 4), _), ((L 7), _)]) (a := _ + 2) O (hA.le (by lia)) hsz (by decide) hm11) (fun φ => iG (gap_sumN (l := [((wv 2), _), ((wv 3), _), ((wv 4), _), ((wv 5), _)]) (a := _ + 1) O (hA.le (by lia)) hsz (by decide) (by simp [hw]) (by simp) hs11) (fun φ => iO (ora_add _ _ _ _ _ (by have := hL11; simp; lia)) <| iG (gap_minN (p := ((0 + L 10), _)) (rest := [((L 0 + L 7), _), ((L 5 + L 3), _), ((L 9), _)]) (a := _ + 6) O (hA.le (by lia)) hsz (by decide) hm12) (fun φ => iG (gap_sumN (l := [((wv 0), _), ((wv 1), _), ((wv 2), _), ((wv 3), _), ((wv 4), _)]) (a := _ + 1) O (hA.le (by lia)) hsz (by decide) (by simp [hw]) (by simp) hs12) (fun φ => iO (ora_add _ _ _ _ _ (by have := hL12; simp; lia)) <| iG (gap_minN (p := ((0 + L 11), _)) (rest := [((L 1 + L 8), _), ((L 6 + L 4), _), ((L 10), _)]) (a := _ + 2) O (hA.le (by lia)) hsz (by decide) hm13) (fun φ => iG (gap_sumN (l := [((wv 1), _), ((wv 2), _), ((wv 3), _), ((wv 4), _), ((wv 5), _)]) (a := _ + 1) O (hA.le (by lia)) hsz (by decide) (by simp [hw]) (by simp) hs13) (fun φ => iO (ora_add _ _ _ _ _ (by have := hL13; simp; lia)) <| iG (gap_minN (p := ((0 + L 13), _)) (rest := [((L 0 + L 11), _), ((L 5 + L 8), _), ((L 9 + L 4), _), ((L 12), _)]) (a := _ + 6) O (hA.le (by lia)) hsz (by decide) hm14) (fun φ => iG (gap_sumN (l := [((wv 0), _), ((wv 1), _), ((wv 2), _), ((wv 3), _), ((wv 4), _), ((wv 5), _)]) (a := _ + 1) O (hA.le (by lia)) hsz (by decide) (by simp [hw]) (by simp) hs14) (fun φ => iO (ora_add _ _ _ _ _ (by have := hL14; simp; lia)) <| iN) <| iN) <| iN) <| iN) <| iN) <| iN) <| iN) <| iN) <| iN) <| iN) <| iN) <| iN) <| iN) <| iN) <| iN) <| iN) <| iN) <| iN) <| iN) <| iN) <| iN) <| iN) <| iN) <| iN) <| iN) <| iN) <| iN) <| iN) <| iN) <| iN⟩ <| aN) (FineS.ats (m := 30) fun ps0 => (fine_done (is := [168]) (d := 169) (Vw.Is.eq (by refine Bool.rec ?_ ?_ b <;> and_intros <;> kernel_rfl)) rfl (next ps0))) S₀
end
noncomputable def lm0 (v : Nat → Nat) : Nat := minN [] (0)
noncomputable def ls0 (v : Nat → Nat) : Nat := [v 0, v 1].sum
noncomputable def ll0 (v : Nat → Nat) : Nat := lm0 v + ls0 v
noncomputable def lm1 (v : Nat → Nat) : Nat := minN [] (0)
noncomputable def ls1 (v : Nat → Nat) : Nat := [v 1, v 2].sum
noncomputable def ll1 (v : Nat → Nat) : Nat := lm1 v + ls1 v
noncomputable def lm2 (v : Nat → Nat) : Nat := minN [] (0)
noncomputable def ls2 (v : Nat → Nat) : Nat := [v 2, v 3].sum
noncomputable def ll2 (v : Nat → Nat) : Nat := lm2 v + ls2 v
noncomputable def lm3 (v : Nat → Nat) : Nat := minN [] (0)
noncomputable def ls3 (v : Nat → Nat) : Nat := [v 3, v 4].sum
noncomputable def ll3 (v : Nat → Nat) : Nat := lm3 v + ls3 v
noncomputable def lm4 (v : Nat → Nat) : Nat := minN [] (0)
noncomputable def ls4 (v : Nat → Nat) : Nat := [v 4, v 5].sum
noncomputable def ll4 (v : Nat → Nat) : Nat := lm4 v + ls4 v
noncomputable def lm5 (v : Nat → Nat) : Nat := minN [ll0 v] (0 + ll1 v)
noncomputable def ls5 (v : Nat → Nat) : Nat := [v 0, v 1, v 2].sum
noncomputable def ll5 (v : Nat → Nat) : Nat := lm5 v + ls5 v
noncomputable def lm6 (v : Nat → Nat) : Nat := minN [ll1 v] (0 + ll2 v)
noncomputable def ls6 (v : Nat → Nat) : Nat := [v 1, v 2, v 3].sum
noncomputable def ll6 (v : Nat → Nat) : Nat := lm6 v + ls6 v
noncomputable def lm7 (v : Nat → Nat) : Nat := minN [ll2 v] (0 + ll3 v)
noncomputable def ls7 (v : Nat → Nat) : Nat := [v 2, v 3, v 4].sum
noncomputable def ll7 (v : Nat → Nat) : Nat := lm7 v + ls7 v
noncomputable def lm8 (v : Nat → Nat) : Nat := minN [ll3 v] (0 + ll4 v)
noncomputable def ls8 (v : Nat → Nat) : Nat := [v 3, v 4, v 5].sum
noncomputable def ll8 (v : Nat → Nat) : Nat := lm8 v + ls8 v
noncomputable def lm9 (v : Nat → Nat) : Nat := minN [ll0 v + ll2 v, ll5 v] (0 + ll6 v)
noncomputable def ls9 (v : Nat → Nat) : Nat := [v 0, v 1, v 2, v 3].sum
noncomputable def ll9 (v : Nat → Nat) : Nat := lm9 v + ls9 v
noncomputable def lm10 (v : Nat → Nat) : Nat := minN [ll1 v + ll3 v, ll6 v] (0 + ll7 v)
noncomputable def ls10 (v : Nat → Nat) : Nat := [v 1, v 2, v 3, v 4].sum
noncomputable def ll10 (v : Nat → Nat) : Nat := lm10 v + ls10 v
noncomputable def lm11 (v : Nat → Nat) : Nat := minN [ll2 v + ll4 v, ll7 v] (0 + ll8 v)
noncomputable def ls11 (v : Nat → Nat) : Nat := [v 2, v 3, v 4, v 5].sum
noncomputable def ll11 (v : Nat → Nat) : Nat := lm11 v + ls11 v
noncomputable def lm12 (v : Nat → Nat) : Nat := minN [ll0 v + ll7 v, ll5 v + ll3 v, ll9 v] (0 + ll10 v)
noncomputable def ls12 (v : Nat → Nat) : Nat := [v 0, v 1, v 2, v 3, v 4].sum
noncomputable def ll12 (v : Nat → Nat) : Nat := lm12 v + ls12 v
noncomputable def lm13 (v : Nat → Nat) : Nat := minN [ll1 v + ll8 v, ll6 v + ll4 v, ll10 v] (0 + ll11 v)
noncomputable def ls13 (v : Nat → Nat) : Nat := [v 1, v 2, v 3, v 4, v 5].sum
noncomputable def ll13 (v : Nat → Nat) : Nat := lm13 v + ls13 v
noncomputable def lm14 (v : Nat → Nat) : Nat := minN [ll0 v + ll11 v, ll5 v + ll8 v, ll9 v + ll4 v, ll12 v] (0 + ll13 v)
noncomputable def ls14 (v : Nat → Nat) : Nat := [v 0, v 1, v 2, v 3, v 4, v 5].sum
noncomputable def ll14 (v : Nat → Nat) : Nat := lm14 v + ls14 v
noncomputable def leM (v : Nat → Nat) : Nat → Nat
 | 0 => lm0 v
 | 1 => lm1 v
 | 2 => lm2 v
 | 3 => lm3 v
 | 4 => lm4 v
 | 5 => lm5 v
 | 6 => lm6 v
 | 7 => lm7 v
 | 8 => lm8 v
 | 9 => lm9 v
 | 10 => lm10 v
 | 11 => lm11 v
 | 12 => lm12 v
 | 13 => lm13 v
 | 14 => lm14 v
 | _ => 0
noncomputable def leS (v : Nat → Nat) : Nat → Nat
 | 0 => ls0 v
 | 1 => ls1 v
 | 2 => ls2 v
 | 3 => ls3 v
 | 4 => ls4 v
 | 5 => ls5 v
 | 6 => ls6 v
 | 7 => ls7 v
 | 8 => ls8 v
 | 9 => ls9 v
 | 10 => ls10 v
 | 11 => ls11 v
 | 12 => ls12 v
 | 13 => ls13 v
 | 14 => ls14 v
 | _ => 0
noncomputable def leL (v : Nat → Nat) : Nat → Nat
 | 0 => ll0 v
 | 1 => ll1 v
 | 2 => ll2 v
 | 3 => ll3 v
 | 4 => ll4 v
 | 5 => ll5 v
 | 6 => ll6 v
 | 7 => ll7 v
 | 8 => ll8 v
 | 9 => ll9 v
 | 10 => ll10 v
 | 11 => ll11 v
 | 12 => ll12 v
 | 13 => ll13 v
 | 14 => ll14 v
 | _ => 0
theorem gap_least {h₀ : HS} {w : World} {b : Bool} (O : (Bw w b h₀).Ok) {A : Around} {dw : Nat} {wl : PL} {v : Nat → Nat} {idx : List Nat} (hA : AOk A 330) (hsz : 186 ≤ h₀.h.objs.size) (hi : idx.Nodup) (hw : ∀ i, v i ≤ 1000) (hl : wl.length = 6) (hv : ∀ i, i < 6 → (wl.map (·.1))[i]? = some (v i)) :
  GapOk (Bw w b h₀) A 3 idx [(dw + 186, listO (intV wl) 6)] (Code.call (.ref 180) ⟨[.ref (dw + 186)], []⟩) (fun φ => .ok (.ret (.int (Int.ofNat (ll14 v)) (φ 2)))) (fun _ => []) := by
 refine gap_of hi hsz fun κ h gl dr t os R r n hd' hk S next => ?_
 have hA2 : AOk (arnd A κ) 300 := AOk.over (d := 300) (hA.le (by lia)) hd'
 rcases wl with _ | ⟨p0, _ | ⟨p1, _ | ⟨p2, _ | ⟨p3, _ | ⟨p4, _ | ⟨p5, _ | ⟨_, _⟩⟩⟩⟩⟩⟩⟩ <;> try (simp at hl; done)
 have h0 : p0.1 = v 0 := by simpa using hv 0 (by lia)
 have h1 : p1.1 = v 1 := by simpa using hv 1 (by lia)
 have h2 : p2.1 = v 2 := by simpa using hv 2 (by lia)
 have h3 : p3.1 = v 3 := by simpa using hv 3 (by lia)
 have h4 : p4.1 = v 4 := by simpa using hv 4 (by lia)
 have h5 : p5.1 = v 5 := by simpa using hv 5 (by lia)
 have e : intV [p0, p1, p2, p3, p4, p5] = [.int (Int.ofNat (v 0)) p0.2, .int (Int.ofNat (v 1)) p1.2, .int (Int.ofNat (v 2)) p2.2, .int (Int.ofNat (v 3)) p3.2, .int (Int.ofNat (v 4)) p4.2, .int (Int.ofNat (v 5)) p5.2] := by simp [intV, h0, h1, h2, h3, h4, h5]
 rw [e] at S next
 refine le_t (wv := v) (wt := fun i => match i with | 0 => p0.2 | 1 => p1.2 | 2 => p2.2 | 3 => p3.2 | 4 => p4.2 | _ => p5.2) (mn := leM v) (sg := leS v) (L := leL v) O hA2 hsz hw rfl rfl rfl rfl rfl rfl rfl rfl rfl rfl rfl rfl rfl rfl rfl rfl rfl rfl rfl rfl rfl rfl rfl rfl rfl rfl rfl rfl rfl rfl rfl rfl rfl rfl rfl rfl rfl rfl rfl rfl rfl rfl rfl rfl rfl S fun ps0 h' t' S' => ?_
 exact next (fun i => match i with
  | 0 => (ps0 29).fresh 0 + 4
  | 1 => t'
  | _ => (ps0 29).fresh 1) h' S'
theorem gap_c3 {h₀ : HS} {w : World} {b : Bool} (O : (Bw w b h₀).Ok) {A : Around} {it acc loc fr cd cw dw K ep : Nat} {y : Z7} {idx : List Nat} (hA : AOk A (140 + 5 * K)) (hsz : 186 ≤ h₀.h.objs.size) (hi : idx.Nodup) (hw : y.wl.length = 6) (hd : y.dl.length = 6) (hb : ∀ p ∈ y.wl, p.1 < 1000) :
  GapOk (Bw w b h₀) A K idx [(it + 186, rangeItO 0 6), (acc + 186, listO [] ep), (loc + 186, dictO 0 []), (cd + 186, cellO (.ref (dw + 186))), (dw + 186, listO (intV y.wl) 6), (cw + 186, cellO (.ref (y.de + 186))), (y.de + 186, listO (intV y.dl) y.d0)]
   (c3 (wf w b).params (it + 186) (acc + 186) (loc + 186) (fr + 186) (cd + 186) (cw + 186)) (fun φ => .ok .next)
   (fun φ => [rangeItO 6 0, listO (intV ((prodL y.wl y.dl).zip (frL φ 6))) (φ 2), dictO 1 [en (wf w b) [107] (φ 3) (.int (Int.ofNat (φ 4)) (φ 5))]]) := by
 refine gap_of hi hsz fun κ h gl dr t os R r n hd' hk S next => ?_
 have hA2 : AOk (arnd A κ) 140 := AOk.over (d := 140) (hA.le (by lia)) hd'
 obtain ⟨p, wr, hwe⟩ : ∃ p wr, y.wl = p :: wr := by
  cases h : y.wl with
  | nil => rw [h] at hw; simp at hw
  | cons p wr => exact ⟨p, wr, rfl⟩
 obtain ⟨q, dr', hde⟩ : ∃ p wr, y.dl = p :: wr := by
  cases h : y.dl with
  | nil => rw [h] at hd; simp at hd
  | cons p wr => exact ⟨p, wr, rfl⟩
 have lw : wr.length = 5 := by rw [hwe] at hw; simpa using hw
 have ld : dr'.length = 5 := by rw [hde] at hd; simpa using hd
 have hx : y.wl[0]? = some p := by rw [hwe]; rfl
 have hy : y.dl[0]? = some q := by rw [hde]; rfl
 refine c3A_t (kk := 0) (jp := 0) (tp := 0) (wj := p.1) (dj := q.1) O hA2 (intV_get hx) (intV_get hy) (by lia) rfl (mulOk (hb p (by rw [hwe]; exact .head _))) (by simp) S fun h' t' S' => ?_
 rw [rIt] at S'
 have S2 := S'
 refine c3_run O hA2 wr dr' 1 _ _ _ _ _ _ _ _ (by rw [hwe]; rfl) (by rw [hde]; rfl) (by lia) (by lia) (by show ([] ++ [Value.int (Int.ofNat (p.1 * q.1)) (t + 2)]).length + wr.length < 1000; simp; lia) (fun x hx => hb x (by rw [hwe]; exact .tail _ hx)) (by rw [lw]; exact S') fun h' n' t' l ep' kk' jp' tp' hl S2 => ?_
 have e := frL_of ((t + 2) :: l) (fun i => match i with
  | 0 => n'
  | 1 => t'
  | 2 => ep'
  | 3 => kk'
  | 4 => jp'
  | _ => tp')
 have := next (fun i => if i < 9 then (match i with
  | 0 => n'
  | 1 => t'
  | 2 => ep'
  | 3 => kk'
  | 4 => jp'
  | _ => tp') else ((((t + 2) :: l)[i - 9]?).getD 0)) h'
 have hl6 : ((t + 2) :: l).length = 6 := by simp [hl, lw]
 rw [hl6] at e
 rw [e] at this
 refine this ?_
 rw [lw] at S2
 have e3 : intV ((prodL y.wl y.dl).zip ((t + 2) :: l)) = [.int (Int.ofNat (p.1 * q.1)) (t + 2)] ++ intV ((prodL wr dr').zip l) := by
  rw [hwe, hde]
  simp [intV, prodL]
 rw [e3]
 exact S2
section
variable {h₀ : HS} {w : World} {b : Bool} (O : (Bw w b h₀).Ok) {A₀ : Around} (hA : AOk A₀ 140) {R : Result → Shared → Prop} {dr : Drawn} {os : OsState} {h : Heap}
include O hA
theorem slx1_t {a o1 t1 n t : Nat} {r : Led} {gl : List GenState} (S₀ : St (Bw w b h₀) h ((a + 186, sliceO (.int 1 t1) .none) :: r) (n + 186))
  (next : ∀ h' t', St (Bw w b h₀) h' ((a + 186, sliceO (.int 1 t1) .none) :: r) ((n + 186)) → R (.ok (.ret (.str (S []) t))) (sh h' gl dr t' os)) :
  cA w b A₀ (bi "str.__getitem__" [.str (S [32]) o1, .ref (a + 186)]) R (sh h gl dr t os) := by
 exact code_run (f := 11) (ls := [1, 1, 1, 1]) (qs := []) O hA  aN (fine_done (is := [0]) (d := 1) (Vw.Is.eq (by refine Bool.rec ?_ ?_ b <;> and_intros <;> kernel_rfl)) rfl (next)) S₀
theorem slx2_t {a o1 t1 n t : Nat} {r : Led} {gl : List GenState} (S₀ : St (Bw w b h₀) h ((a + 186, sliceO (.int 1 t1) .none) :: r) (n + 186))
  (next : ∀ h' t', St (Bw w b h₀) h' ((a + 186, sliceO (.int 1 t1) .none) :: r) ((n + 186)) → R (.ok (.ret (.str (S [32]) t))) (sh h' gl dr t' os)) :
  cA w b A₀ (bi "str.__getitem__" [.str (S [32, 32]) o1, .ref (a + 186)]) R (sh h gl dr t os) := by
 exact code_run (f := 11) (ls := [1, 1, 1, 1]) (qs := []) O hA  aN (fine_done (is := [0]) (d := 1) (Vw.Is.eq (by refine Bool.rec ?_ ?_ b <;> and_intros <;> kernel_rfl)) rfl (next)) S₀
theorem slx3_t {a o1 t1 n t : Nat} {r : Led} {gl : List GenState} (S₀ : St (Bw w b h₀) h ((a + 186, sliceO (.int 1 t1) .none) :: r) (n + 186))
  (next : ∀ h' t', St (Bw w b h₀) h' ((a + 186, sliceO (.int 1 t1) .none) :: r) ((n + 186)) → R (.ok (.ret (.str (S [32, 32]) t))) (sh h' gl dr t' os)) :
  cA w b A₀ (bi "str.__getitem__" [.str (S [32, 32, 32]) o1, .ref (a + 186)]) R (sh h gl dr t os) := by
 exact code_run (f := 11) (ls := [1, 1, 1, 1]) (qs := []) O hA  aN (fine_done (is := [0]) (d := 1) (Vw.Is.eq (by refine Bool.rec ?_ ?_ b <;> and_intros <;> kernel_rfl)) rfl (next)) S₀
theorem slx4_t {a o1 t1 n t : Nat} {r : Led} {gl : List GenState} (S₀ : St (Bw w b h₀) h ((a + 186, sliceO (.int 1 t1) .none) :: r) (n + 186))
  (next : ∀ h' t', St (Bw w b h₀) h' ((a + 186, sliceO (.int 1 t1) .none) :: r) ((n + 186)) → R (.ok (.ret (.str (S [32, 32, 32]) t))) (sh h' gl dr t' os)) :
  cA w b A₀ (bi "str.__getitem__" [.str (S [32, 32, 32, 32]) o1, .ref (a + 186)]) R (sh h gl dr t os) := by
 exact code_run (f := 11) (ls := [1, 1, 1, 1]) (qs := []) O hA  aN (fine_done (is := [0]) (d := 1) (Vw.Is.eq (by refine Bool.rec ?_ ?_ b <;> and_intros <;> kernel_rfl)) rfl (next)) S₀
theorem slx5_t {a o1 t1 n t : Nat} {r : Led} {gl : List GenState} (S₀ : St (Bw w b h₀) h ((a + 186, sliceO (.int 1 t1) .none) :: r) (n + 186))
  (next : ∀ h' t', St (Bw w b h₀) h' ((a + 186, sliceO (.int 1 t1) .none) :: r) ((n + 186)) → R (.ok (.ret (.str (S [32, 32, 32, 32]) t))) (sh h' gl dr t' os)) :
  cA w b A₀ (bi "str.__getitem__" [.str (S [32, 32, 32, 32, 32]) o1, .ref (a + 186)]) R (sh h gl dr t os) := by
 exact code_run (f := 11) (ls := [1, 1, 1, 1]) (qs := []) O hA  aN (fine_done (is := [0]) (d := 1) (Vw.Is.eq (by refine Bool.rec ?_ ?_ b <;> and_intros <;> kernel_rfl)) rfl (next)) S₀
theorem slx6_t {a o1 t1 n t : Nat} {r : Led} {gl : List GenState} (S₀ : St (Bw w b h₀) h ((a + 186, sliceO (.int 1 t1) .none) :: r) (n + 186))
  (next : ∀ h' t', St (Bw w b h₀) h' ((a + 186, sliceO (.int 1 t1) .none) :: r) ((n + 186)) → R (.ok (.ret (.str (S [32, 32, 32, 32, 32]) t))) (sh h' gl dr t' os)) :
  cA w b A₀ (bi "str.__getitem__" [.str (S [32, 32, 32, 32, 32, 32]) o1, .ref (a + 186)]) R (sh h gl dr t os) := by
 exact code_run (f := 11) (ls := [1, 1, 1, 1]) (qs := []) O hA  aN (fine_done (is := [0]) (d := 1) (Vw.Is.eq (by refine Bool.rec ?_ ?_ b <;> and_intros <;> kernel_rfl)) rfl (next)) S₀
end
theorem gap_slb {h₀ : HS} {w : World} {b : Bool} (O : (Bw w b h₀).Ok) {A : Around} {a o1 t1 d K : Nat} {idx : List Nat} (hA : AOk A (140 + 5 * K)) (hsz : 186 ≤ h₀.h.objs.size) (hi : idx.Nodup) (h0 : 0 < d) (h6 : d ≤ 6) :
  GapOk (Bw w b h₀) A K idx [(a + 186, sliceO (.int 1 t1) .none)] (bi "str.__getitem__" [.str (S (List.replicate d 32)) o1, .ref (a + 186)]) (fun φ => .ok (.ret (.str (S ((List.replicate d 32).drop 1)) (φ 2)))) (fun _ => []) := by
 refine gap_of hi hsz fun κ h gl dr t os R r n hd' hk S next => ?_
 have hA2 : AOk (arnd A κ) 140 := AOk.over (d := 140) (hA.le (by lia)) hd'
 have fin : ∀ h' t', St (Bw w b h₀) h' ((a + 186, sliceO (.int 1 t1) .none) :: r) (n + 186) → R (.ok (.ret (.str (Mine.S ((List.replicate d 32).drop 1)) t))) (sh h' gl dr t' os) := fun h' t' S' => next (fun i => match i with
  | 0 => n
  | 1 => t'
  | _ => t) h' S'
 have hc : d = 1 ∨ d = 2 ∨ d = 3 ∨ d = 4 ∨ d = 5 ∨ d = 6 := by lia
 rcases hc with rfl | rfl | rfl | rfl | rfl | rfl
 ·exact slx1_t O hA2 S fin
 ·exact slx2_t O hA2 S fin
 ·exact slx3_t O hA2 S fin
 ·exact slx4_t O hA2 S fin
 ·exact slx5_t O hA2 S fin
 ·exact slx6_t O hA2 S fin
theorem gap_mulb {h₀ : HS} {w : World} {b : Bool} (O : (Bw w b h₀).Ok) {A : Around} {t0 dt d K : Nat} {idx : List Nat} (hA : AOk A (140 + 5 * K)) (hsz : 186 ≤ h₀.h.objs.size) (hi : idx.Nodup) (h0 : 0 < d) (h6 : d ≤ 6) :
  GapOk (Bw w b h₀) A K idx [] (bi "str.__mul__" [.str (S [32]) t0, .int (Int.ofNat d) dt]) (fun φ => .ok (.ret (.str (S (List.replicate d 32)) (φ 2)))) (fun _ => []) := by
 refine gap_of hi hsz fun κ h gl dr t os R r n hd' hk S next => ?_
 have hA2 : AOk (arnd A κ) 140 := AOk.over (d := 140) (hA.le (by lia)) hd'
 obtain ⟨m, rfl⟩ : ∃ m, d = 1 + m := ⟨d - 1, by lia⟩
 obtain ⟨tw, dd, ok⟩ := mul_ok (prog := PySem.Challenge.pw_tl0006_01) (w := wf w b) 32 m (by lia) t0 dt
 refine ok _ _ _ _ _ _ _ (by simp) hA2.handled ?_
 exact next (fun i => match i with
  | 0 => n
  | 1 => t + dd
  | _ => tw t) h S
structure Wd where
 (qd : Bool)
 (ws : List Nat)
 (i : Nat)
noncomputable def wtx : List Wd → List Nat
 | [] => []
 | w :: r => w.ws ++ (wordT w.qd (nA w.i + 1) (nB w.i + 1) ++ wtx r)
noncomputable def cutW (qd : Bool) (r : List Wd) : List Wd := match qd with
 | true => r
 | false => match r with
  | [] => []
  | w :: r => { w with ws := w.ws.tail } :: r
noncomputable def allWs (w : Wd) : Prop := ∀ c ∈ w.ws, isWs c = true
theorem wtx_head {r : List Wd} (h : ∀ w ∈ r, allWs w ∧ w.ws ≠ []) : ∀ c ∈ (wtx r).head?, isWs c = true := by
 cases r with
 | nil => intro c hc; simp [wtx] at hc
 | cons w r =>
  obtain ⟨h1, h2⟩ := h w (.head _)
  cases hw : w.ws with
  | nil => exact absurd hw h2
  | cons x xs =>
   intro c hc
   have : (wtx (w :: r)).head? = some x := by
    show (w.ws ++ _).head? = some x
    rw [hw]
    rfl
   rw [this] at hc
   injection hc with hc
   subst hc
   exact h1 _ (by rw [hw]; exact .head _)
theorem wtx_cut {qd : Bool} {r : List Wd} (h : ∀ w ∈ r, allWs w ∧ w.ws ≠ []) (hq : qd = false) : wtx (cutW qd r) = (wtx r).drop 1 := by
 subst hq
 cases r with
 | nil => rfl
 | cons w r =>
  obtain ⟨_, h2⟩ := h w (.head _)
  show w.ws.tail ++ _ = (w.ws ++ _).drop 1
  cases hw : w.ws with
  | nil => exact absurd hw h2
  | cons x xs => rfl
theorem read_one {text : List Nat} {p : Nat} {w : Wd} {r : List Wd} (h : ∀ w ∈ r, allWs w ∧ w.ws ≠ []) (hd : text.drop p = wtx (w :: r)) (hp : p ≤ text.length) :
  text.drop (p + w.ws.length + (readT w.qd (nA w.i + 1) (nB w.i + 1) (wtx r)).length) = wtx (cutW w.qd r) ∧ p + w.ws.length + (readT w.qd (nA w.i + 1) (nB w.i + 1) (wtx r)).length ≤ text.length := by
 have hl := congrArg List.length hd
 rw [List.length_drop] at hl
 have hlen : (wtx (w :: r)).length = w.ws.length + ((wordT w.qd (nA w.i + 1) (nB w.i + 1)).length + (wtx r).length) := by simp [wtx]
 cases hq : w.qd with
 | true =>
  have e : readT true (nA w.i + 1) (nB w.i + 1) (wtx r) = wordT true (nA w.i + 1) (nB w.i + 1) := rfl
  rw [e]
  rw [hq] at hlen
  refine ⟨?_, by lia⟩
  rw [Nat.add_assoc, ← List.drop_drop, hd]
  show (w.ws ++ (wordT w.qd _ _ ++ wtx r)).drop _ = wtx r
  rw [hq, ← List.append_assoc, ← List.length_append]
  simp
 | false =>
  have e : readT false (nA w.i + 1) (nB w.i + 1) (wtx r) = wordT false (nA w.i + 1) (nB w.i + 1) ++ (wtx r).take 1 := rfl
  rw [e, wtx_cut h rfl]
  rw [hq] at hlen
  rw [List.length_append]
  refine ⟨?_, by have := List.length_take_le 1 (wtx r); have : ((wtx r).take 1).length ≤ (wtx r).length := by simp; lia
                 lia⟩
  rw [Nat.add_assoc, ← List.drop_drop, hd]
  show (w.ws ++ (wordT w.qd _ _ ++ wtx r)).drop _ = _
  rw [hq]
  have h3 : (w.ws ++ (wordT false (nA w.i + 1) (nB w.i + 1) ++ wtx r)).drop (w.ws.length + ((wordT false (nA w.i + 1) (nB w.i + 1)).length + ((wtx r).take 1).length)) = (wtx r).drop ((wtx r).take 1).length := by
   rw [← Nat.add_assoc, ← List.append_assoc, ← List.length_append, ← List.drop_drop]
   simp
  rw [h3]
  cases wtx r <;> rfl
noncomputable def incD (dl : List Nat) (i : Nat) : List Nat := dl.set i (dl.getD i 0 + 1)
theorem nms_at (z2 : Z2) {i : Nat} (h : i < 6) : ∃ hi : i < (nmsL z2).length, (nmsL z2)[i].1 = S [nA i + 1, nB i + 1] ∧ ∀ m (hm : m < (nmsL z2).length), m < i → (nmsL z2)[m].1 ≠ S [nA i + 1, nB i + 1] := by
 have hc : i = 0 ∨ i = 1 ∨ i = 2 ∨ i = 3 ∨ i = 4 ∨ i = 5 := by lia
 refine ⟨h, ?_, ?_⟩
 ·rcases hc with rfl | rfl | rfl | rfl | rfl | rfl <;> rfl
 ·intro m hm hlt
  have hm6 : m < 6 := hm
  have hc2 : m = 0 ∨ m = 1 ∨ m = 2 ∨ m = 3 ∨ m = 4 := by lia
  rcases hc with rfl | rfl | rfl | rfl | rfl | rfl <;> rcases hc2 with rfl | rfl | rfl | rfl | rfl <;> first | (exfalso; lia) | (simp [nmsL, nA, nB, Mine.S])
theorem cutW_i (qd : Bool) (r : List Wd) : (cutW qd r).map (·.i) = r.map (·.i) := by
 cases qd <;> cases r <;> rfl
theorem cutW_ok {qd : Bool} {r : List Wd} (h : ∀ w ∈ r, allWs w) : ∀ w ∈ cutW qd r, allWs w := by
 cases qd with
 | true => exact h
 | false =>
  cases r with
  | nil => intro w hw; cases hw
  | cons x r =>
   intro w hw
   rcases List.mem_cons.mp hw with rfl | hw
   ·intro c hc
    exact h x (.head _) c (List.mem_of_mem_tail hc)
   ·exact h w (.tail _ hw)
theorem cutW_tl {qd : Bool} {r : List Wd} : (cutW qd r).tail = r.tail := by
 cases qd <;> cases r <;> rfl
theorem cutW_len {qd : Bool} {r : List Wd} : (cutW qd r).length = r.length := by
 cases qd <;> cases r <;> rfl
theorem wtx_split {x : Wd} {L : List Wd} (h : ∀ w ∈ L, allWs w ∧ w.ws ≠ []) : x.ws ++ (readT x.qd (nA x.i + 1) (nB x.i + 1) (wtx L) ++ wtx (cutW x.qd L)) = wtx (x :: L) := by
 show _ = x.ws ++ (wordT x.qd (nA x.i + 1) (nB x.i + 1) ++ wtx L)
 congr 1
 cases hq : x.qd with
 | true => rfl
 | false =>
  rw [wtx_cut h rfl]
  show wordT false _ _ ++ (wtx L).take 1 ++ _ = _
  rw [List.append_assoc, List.take_append_drop]
theorem cnt10_append (a b : List Nat) : cnt10 (a ++ b) = cnt10 a + cnt10 b := by simp [cnt10]
theorem cnt10_split {x : Wd} {L : List Wd} (h : ∀ w ∈ L, allWs w ∧ w.ws ≠ []) : cnt10 x.ws + cnt10 (readT x.qd (nA x.i + 1) (nB x.i + 1) (wtx L)) + cnt10 (wtx (cutW x.qd L)) = cnt10 (wtx (x :: L)) := by
 rw [← wtx_split h, cnt10_append, cnt10_append]
 lia
section
variable {h₀ : HS} {w : World} {b lay : Bool} {z1 : Z1} {z2 : Z2} {z3 : Z3} {f : ZF} {g : ZG} {X : LX} (O : (Bw w b h₀).Ok) {A₀ : Around} (hA : AOk A₀ 200) (hsz : 186 ≤ h₀.h.objs.size) {R : Result → Shared → Prop} {dr : Drawn} {os : OsState} {de d0 : Nat} {v1 v2 : Value} {r : Led} {gl : List GenState}
include O hA hsz
theorem rd_run (hX : 2 ≤ X.text.length) : ∀ (k : Nat) (L : List Wd) (i0 : Nat) (dl : PL) (ln tl p tp n t t5 : Nat) (h : Heap), L.length = k → i0 < 6 → dl.length = 6 → (∀ w ∈ L, w.i < 6) → (∀ w ∈ L, allWs w) → (∀ w ∈ L.tail, w.ws ≠ []) → X.text.cps.toList.drop p = wtx L → p ≤ X.text.cps.toList.length →
  St (Bw w b h₀) h ((z1.n + 186, lawF (wf w b) lay z1 z2 z3 { f with e2 := rdE (wf w b) X g } v1 v2 (.str (S [nA i0 + 1, nB i0 + 1]) t5)) :: (z2.n + 186, namesO z2) :: (z1.n + 189, cellO (.ref (de + 186))) :: (de + 186, listO (intV dl) d0) :: (lexLed (wf w b) X ln tl p tp [] 0 ++ r)) (n + 186) →
  (∀ h' n' t' t5' tl' tp' (dl' : PL), dl'.length = 6 → dl'.map (·.1) = (i0 :: L.map (·.i)).foldl incD (dl.map (·.1)) → St (Bw w b h₀) h' ((z1.n + 186, lawF (wf w b) lay z1 z2 z3 { f with e2 := rdE (wf w b) X g } v1 v2 (.str (S []) t5')) :: (z2.n + 186, namesO z2) :: (z1.n + 189, cellO (.ref (de + 186))) :: (de + 186, listO (intV dl') d0) :: (lexLed (wf w b) X (ln + cnt10 (wtx L)) tl' X.text.length tp' [] 0 ++ r)) (n' + 186) → R (.ok .next) (sh h' gl dr t' os)) →
  cA w b A₀ (whOf (tnStmt (wf w b).params 14) (lawEnv (wf w b).params z1.n)) R (sh h gl dr t os) := by
 intro k
 induction k with
 | zero =>
  intro L i0 dl ln tl p tp n t t5 h hk hi0 hdl hLi hLw hLt hd hp S₀ next
  have : L = [] := List.length_eq_zero_iff.mp hk
  subst this
  obtain ⟨hi, hnm, hno⟩ := nms_at z2 hi0
  obtain ⟨q, hq⟩ : ∃ q, dl[i0]? = some q := ⟨dl[i0], by simp⟩
  have hpe : p = X.text.length := by
   have : X.text.cps.toList.length ≤ p := by simpa [wtx] using hd
   have e : X.text.length = X.text.cps.toList.length := by simp [Str.length]
   lia
  refine rdT_t (i := i0) (dv := q.1) (dt := q.2) (nx := []) (ln2 := ln) (p2 := p) O hA hi hnm hno (intV_get hq) (by rw [len_intV]; lia) (by lia) (by lia) (fun idx hidx => gap_gtE O hsz (hA.le (by lia)) hidx hX hpe) S₀ fun ps0 h' t' S' => ?_
  refine rdZ_t (dv := 0) (dt := 0) (i := 0) (ln2 := 0) (p2 := 0) (ln := 0) (tl := 0) (p := 0) (tp := 0) (de := 0) (d0 := 0) (c1 := 0) (c2 := 0) (nx := []) (dl := []) (g := g) (X := X) O (hA.le (by lia)) S' fun h' t' S2 => ?_
  rw [hpe] at S2
  refine next h' _ t' _ _ _ (dl.set i0 (q.1 + 1, t + 3)) (by simp [hdl]) ?_ S2
  simp [incD, List.map_set, List.getD_eq_getElem?_getD, hq]
 | succ k ih =>
  intro L i0 dl ln tl p tp n t t5 h hk hi0 hdl hLi hLw hLt hd hp S₀ next
  cases L with
  | nil => simp at hk
  | cons x L =>
   obtain ⟨hi, hnm, hno⟩ := nms_at z2 hi0
   obtain ⟨q, hq⟩ : ∃ q, dl[i0]? = some q := ⟨dl[i0], by simp⟩
   have good : ∀ w ∈ L, allWs w ∧ w.ws ≠ [] := fun w hw => ⟨hLw w (.tail _ hw), hLt w hw⟩
   obtain ⟨hd2, hp2⟩ := read_one good hd hp
   refine rdT_t (i := i0) (dv := q.1) (dt := q.2) (nx := [nA x.i + 1, nB x.i + 1]) (ln2 := ln + cnt10 x.ws + cnt10 (readT x.qd (nA x.i + 1) (nB x.i + 1) (wtx L))) (p2 := p + x.ws.length + (readT x.qd (nA x.i + 1) (nB x.i + 1) (wtx L)).length) O hA hi hnm hno (intV_get hq) (by rw [len_intV]; lia) (by lia) (by lia)
    (fun idx hidx => gap_gt O hsz (hA.le (by lia)) hidx hX isLet_nB (fun _ => wtx_head good) (hLw x (.head _)) hd rfl rfl) S₀ fun ps0 h' t' S' => ?_
   refine ih (cutW x.qd L) x.i (dl.set i0 (q.1 + 1, t + 3)) _ _ _ _ _ _ _ _ (by rw [cutW_len]; simpa using hk) (hLi x (.head _)) (by simp [hdl]) (fun w hw => ?_) (cutW_ok fun w hw => (good w hw).1) (by rw [cutW_tl]; exact fun w hw => (good w (List.mem_of_mem_tail hw)).2) hd2 hp2 S' fun h' n' t' t5' tl' tp' dl' hl hv S2 => ?_
   ·have : w.i ∈ (cutW x.qd L).map (·.i) := List.mem_map_of_mem hw
    rw [cutW_i] at this
    obtain ⟨w', hw', e⟩ := List.mem_map.mp this
    rw [← e]
    exact hLi w' (.tail _ hw')
   ·rw [Nat.add_assoc, Nat.add_assoc, ← Nat.add_assoc (cnt10 x.ws), cnt10_split good] at S2
    refine next h' n' t' t5' tl' tp' dl' hl ?_ S2
    rw [hv, cutW_i]
    have : (dl.set i0 (q.1 + 1, t + 3)).map (·.1) = incD (dl.map (·.1)) i0 := by simp [incD, List.map_set, List.getD_eq_getElem?_getD, hq]
    rw [this]
    rfl
end
theorem zip_eq (l : PL) : (l.map (·.1)).zip (l.map (·.2)) = l := by
 induction l with
 | nil => rfl
 | cons p l ih => simp [ih]
theorem gap_rd {h₀ : HS} {w : World} {b lay : Bool} {z1 : Z1} {z2 : Z2} {z3 : Z3} {f : ZF} {g : ZG} {X : LX} (O : (Bw w b h₀).Ok) {A : Around} (hA : AOk A 220) (hsz : 186 ≤ h₀.h.objs.size) {de d0 i0 ln tl p tp t0 : Nat} {v1 v2 : Value} {dl : PL} {dl2 : List Nat} {L : List Wd} {idx : List Nat} (hi : idx.Nodup) (hX : 2 ≤ X.text.length) (hi0 : i0 < 6) (hdl : dl.length = 6) (hLi : ∀ w ∈ L, w.i < 6) (hLw : ∀ w ∈ L, allWs w) (hLt : ∀ w ∈ L.tail, w.ws ≠ []) (hd : X.text.cps.toList.drop p = wtx L) (hp : p ≤ X.text.cps.toList.length) (hv : (i0 :: L.map (·.i)).foldl incD (dl.map (·.1)) = dl2) {ln3 p3 : Nat} (hln : ln + cnt10 (wtx L) = ln3) (hp3 : X.text.length = p3) :
  GapOk (Bw w b h₀) A 3 idx ((z1.n + 186, lawF (wf w b) lay z1 z2 z3 { f with e2 := rdE (wf w b) X g } v1 v2 (.str (S [nA i0 + 1, nB i0 + 1]) t0)) :: (z2.n + 186, namesO z2) :: (z1.n + 189, cellO (.ref (de + 186))) :: (de + 186, listO (intV dl) d0) :: lexLed (wf w b) X ln tl p tp [] 0)
   (whOf (tnStmt (wf w b).params 14) (lawEnv (wf w b).params z1.n)) (fun φ => .ok .next)
   (fun φ => [lawF (wf w b) lay z1 z2 z3 { f with e2 := rdE (wf w b) X g } v1 v2 (.str (S []) (φ 2)), namesO z2, cellO (.ref (de + 186)), listO (intV (dl2.zip (frL φ 6))) d0, instO 59 (X.dx + 186), lexD (wf w b) X ln3 (φ 3), listO [.int (Int.ofNat p3) (φ 4)] 0]) := by
 subst hln hp3
 refine gap_of hi hsz fun κ h gl dr t os R r n hd' hk S₀ next => ?_
 refine rd_run O (AOk.over (d := 200) (hA.le (by lia)) hd') hsz hX L.length L i0 dl ln tl p tp n t t0 h rfl hi0 hdl hLi hLw hLt hd hp S₀ fun h' n' t' t5' tl' tp' dl' hl hv' S2 => ?_
 have e := frL_of (dl'.map (·.2)) (fun i => match i with
  | 0 => n'
  | 1 => t'
  | 2 => t5'
  | 3 => tl'
  | _ => tp')
 have := next (fun i => if i < 9 then (match i with
  | 0 => n'
  | 1 => t'
  | 2 => t5'
  | 3 => tl'
  | _ => tp') else (((dl'.map (·.2))[i - 9]?).getD 0)) h'
 rw [List.length_map, hl] at e
 rw [e, ← hv, ← hv', zip_eq] at this
 exact this S2
section
variable {h₀ : HS} {w : World} {b : Bool} (O : (Bw w b h₀).Ok) {A₀ : Around} (hA : AOk A₀ 140) {R : Result → Shared → Prop} {dr : Drawn} {os : OsState} {h : Heap}
include O hA
theorem sNe_t {lay : Bool} {z1 : Z1} {z2 : Z2} {z3 : Z3} {X : LX} {y : ZN} {gl : List GenState} (S₀ : St (Bw w b h₀) h ((y.it + 186, lstItO z2.n 6) :: (z2.n + 186, namesO z2) :: y.r) (y.n + 186))
  (next : ∀ h' t', St (Bw w b h₀) h' ((z2.n + 186, namesO z2) :: y.r) ((y.n + 188)) → R (.ok PySem.Flow.next) (sh h' gl dr t' os)) :
  cA w b A₀ (forOf (lawStmt (wf w b).params 9) (y.it + 186) (lawEnv (wf w b).params z1.n)) R (sh h gl dr y.t os) := by
 exact code_run (f := 23) (ls := [1, 1, 1, 1, 2, 1, 1, 1]) (qs := []) O hA  aN (fine_done (is := [3]) (d := 4) (Vw.Is.eq (by refine Bool.rec ?_ ?_ b <;> and_intros <;> kernel_rfl)) rfl (next)) S₀
end
section
variable {h₀ : HS} {w : World} {b lay : Bool} {z1 : Z1} {z2 : Z2} {z3 : Z3} {X : LX} (O : (Bw w b h₀).Ok) {A₀ : Around} (hA : AOk A₀ 200) (hsz : 186 ≤ h₀.h.objs.size) {R : Result → Shared → Prop} {dr : Drawn} {os : OsState} {gl : List GenState} (hX : 2 ≤ X.text.length)
include O hA hsz hX
theorem nr : ∀ (j k : Nat) (y : ZN) (L₀ : List Wd) (h : Heap), k + j = 6 → (k ≠ 0 → y.nv = .str (S [nA (k - 1) + 1, nB (k - 1) + 1]) (z2.t + (k - 1))) → L₀.map (·.i) = List.range' k j → (∀ w ∈ L₀, allWs w) → (∀ w ∈ L₀.tail, w.ws ≠ []) → X.text.cps.toList.drop y.p = wtx L₀ → y.p ≤ X.text.cps.toList.length →
  St (Bw w b h₀) h ((z1.n + 186, nrF (wf w b) lay z1 z2 z3 X y k) :: (y.it + 186, lstItO z2.n k) :: (z2.n + 186, namesO z2) :: (y.to + 186, listO (toL k y.tt) y.te) :: (lexLed (wf w b) X y.ln y.tl y.p y.tp [] y.ep ++ y.r)) (y.n + 186) → (∀ (h' : Heap) (n' t' kna te nt tl tp ep : Nat) (tt : Nat → Nat), St (Bw w b h₀) h' ((z1.n + 186, lawA (wf w b) lay z1 z2 z3 10 [en (wf w b) c_white y.kw (.str (S y.wx) y.wt), en (wf w b) c_word y.kd (.str (S y.wy) y.dt), en (wf w b) c_lexer y.klx (.ref (X.lx + 186)), en (wf w b) c_told y.kto (.ref (y.to + 186)), en (wf w b) c_name kna (.str (S [32, 102]) nt)]) :: (z2.n + 186, namesO z2) :: (y.to + 186, listO (toL 6 tt) te) :: (lexLed (wf w b) X (y.ln + cnt10 (wtx L₀)) tl X.text.length tp [] ep ++ y.r)) (n' + 186) → R (.ok .next) (sh h' gl dr t' os)) → cA w b A₀ (forOf (lawStmt (wf w b).params 9) (y.it + 186) (lawEnv (wf w b).params z1.n)) R (sh h gl dr y.t os)
 | 0, k, y, L₀, h, hk, hnv, hL, hLw, hLt, hd, hp, S₀, fin => by
  obtain rfl : k = 6 := by lia
  have hL0 : L₀ = [] := by simpa using hL
  subst hL0
  have e : X.text.length = X.text.cps.toList.length := by simp [Str.length]
  have hpe : y.p = X.text.length := by
   have := List.drop_eq_nil_iff.mp hd
   lia
  have S1 := S₀.perm (List.perm_append_comm (l₁ := [(y.it + 186, lstItO z2.n 6), (z2.n + 186, namesO z2)]) (l₂ := [(z1.n + 186, nrF (wf w b) lay z1 z2 z3 X y 6)]) |>.append_right _)
  refine sNe_t (lay := lay) (z1 := z1) (z3 := z3) (X := X) (y := { y with r := (z1.n + 186, nrF (wf w b) lay z1 z2 z3 X y 6) :: (y.to + 186, listO (toL 6 y.tt) y.te) :: (lexLed (wf w b) X y.ln y.tl y.p y.tp [] y.ep ++ y.r) }) O (hA.le (by lia)) S1 fun h' t' S' => ?_
  have S2 := S'.perm (List.Perm.swap _ _ _)
  rw [hpe] at S2
  have hn := hnv (by decide)
  refine fin h' (y.n + 2) t' y.kna y.te (z2.t + 5) y.tl y.tp y.ep y.tt ?_
  have e0 : nrF (wf w b) lay z1 z2 z3 X y 6 = lawA (wf w b) lay z1 z2 z3 10 (esN (wf w b) X y ++ [en (wf w b) c_name y.kna (.str (S [32, 102]) (z2.t + 5))]) := by
   show lawA _ _ _ _ _ _ (_ ++ [en _ _ _ y.nv]) = _
   rw [hn]
   rfl
  rw [e0] at S2
  exact S2
 | j + 1, k, y, L₀, h, hk, hnv, hL, hLw, hLt, hd, hp, S₀, fin => by
  cases L₀ with
  | nil => simp at hL
  | cons x L =>
   rw [List.range'_succ] at hL
   obtain ⟨hxi, hL'⟩ := List.cons.inj hL
   have hxi : x.i = k := hxi
   have good : ∀ w ∈ L, allWs w ∧ w.ws ≠ [] := fun w hw => ⟨hLw w (.tail _ hw), hLt w hw⟩
   obtain ⟨hd2, hp2⟩ := read_one good hd hp
   have hs := cnt10_split (x := x) good
   rw [hxi] at hd2 hp2 hs
   have hdx : X.text.cps.toList.drop y.p = x.ws ++ (wordT x.qd (nA k + 1) (nB k + 1) ++ wtx L) := by
    rw [hd]
    show x.ws ++ (wordT x.qd (nA x.i + 1) (nB x.i + 1) ++ wtx L) = _
    rw [hxi]
   refine sN_t (k := k) (y := y) (qd := x.qd) (rest := wtx L) (ws := x.ws) O hA (by lia) hsz hX (fun _ => wtx_head good) (hLw x (.head _)) hdx rfl rfl S₀ fun ps0 h' t' S' => ?_
   rw [toL_succ] at S'
   refine nr j (k + 1) { y with n := (ps0 0).fresh 0 + 2, t := t', kna := ktk k y.t y.kna, nv := .str (S [nA k + 1, nB k + 1]) (z2.t + k), ln := y.ln + cnt10 x.ws + cnt10 (readT x.qd (nA k + 1) (nB k + 1) (wtx L)), tl := (ps0 0).fresh 2, p := y.p + x.ws.length + (readT x.qd (nA k + 1) (nB k + 1) (wtx L)).length, tp := (ps0 0).fresh 3, ep := y.ep + 2, te := y.te + 1, tt := fun j => if j < k then y.tt j else (ps0 0).fresh 4 } (cutW x.qd L) h' (by lia) (fun _ => rfl) (by rw [cutW_i]; exact hL') (cutW_ok fun w hw => (good w hw).1) (by rw [cutW_tl]; exact fun w hw => (good w (List.mem_of_mem_tail hw)).2) hd2 hp2 S' fun h' n' t' kna te nt tl tp ep tt S2 => ?_
   have e : y.ln + cnt10 x.ws + cnt10 (readT x.qd (nA k + 1) (nB k + 1) (wtx L)) + cnt10 (wtx (cutW x.qd L)) = y.ln + cnt10 (wtx (x :: L)) := by
    rw [← hs]
    show _ = y.ln + (cnt10 x.ws + cnt10 (readT x.qd (nA k + 1) (nB k + 1) (wtx L)) + cnt10 (wtx (cutW x.qd L)))
    lia
   have S3 : St (Bw w b h₀) h' (_ :: _ :: _ :: (lexLed (wf w b) X (y.ln + cnt10 x.ws + cnt10 (readT x.qd (nA k + 1) (nB k + 1) (wtx L)) + cnt10 (wtx (cutW x.qd L))) tl X.text.length tp [] ep ++ y.r)) (n' + 186) := S2
   rw [e] at S3
   exact fin h' n' t' kna te nt tl tp ep tt S3
theorem nr0 (y : ZN) (L₀ : List Wd) {h : Heap} (hL : L₀.map (·.i) = [0, 1, 2, 3, 4, 5]) (hLw : ∀ w ∈ L₀, allWs w) (hLt : ∀ w ∈ L₀.tail, w.ws ≠ []) (hd : X.text.cps.toList.drop y.p = wtx L₀) (hp : y.p ≤ X.text.cps.toList.length)
  (S₀ : St (Bw w b h₀) h ((z1.n + 186, nrF (wf w b) lay z1 z2 z3 X y 0) :: (y.it + 186, lstItO z2.n 0) :: (z2.n + 186, namesO z2) :: (y.to + 186, listO (toL 0 y.tt) y.te) :: (lexLed (wf w b) X y.ln y.tl y.p y.tp [] y.ep ++ y.r)) (y.n + 186)) (fin : ∀ (h' : Heap) (n' t' kna te nt tl tp ep : Nat) (tt : Nat → Nat), St (Bw w b h₀) h' ((z1.n + 186, lawA (wf w b) lay z1 z2 z3 10 [en (wf w b) c_white y.kw (.str (S y.wx) y.wt), en (wf w b) c_word y.kd (.str (S y.wy) y.dt), en (wf w b) c_lexer y.klx (.ref (X.lx + 186)), en (wf w b) c_told y.kto (.ref (y.to + 186)), en (wf w b) c_name kna (.str (S [32, 102]) nt)]) :: (z2.n + 186, namesO z2) :: (y.to + 186, listO (toL 6 tt) te) :: (lexLed (wf w b) X (y.ln + cnt10 (wtx L₀)) tl X.text.length tp [] ep ++ y.r)) (n' + 186) → R (.ok .next) (sh h' gl dr t' os)) : cA w b A₀ (forOf (lawStmt (wf w b).params 9) (y.it + 186) (lawEnv (wf w b).params z1.n)) R (sh h gl dr y.t os) :=
 nr O hA hsz hX 6 0 y L₀ h rfl (fun h => absurd rfl h) hL hLw hLt hd hp S₀ fin
end
structure PI where
 (a u1 u2 d : Nat)
noncomputable def PI.led (p : PI) : Addr × Obj := (p.a + 186, tupO [.str (S (List.replicate p.d 32)) p.u1, .str (S [46]) p.u2])
noncomputable def pushD : List Nat → Nat → List Nat
 | [], d => [d]
 | x :: st, d => if x = d then pushD st (d - 1) else d :: x :: st
noncomputable def pushOk : List Nat → Nat → Prop
 | [], d => d ≤ 6
 | x :: st, d => d ≤ 6 ∧ (x = d → 0 < d ∧ pushOk st (d - 1))
noncomputable def refP (st : List PI) : List Value := refV (st.map (·.a)).reverse
theorem refP_cons (x : PI) (st : List PI) : refP (x :: st) = refP st ++ [.ref (x.a + 186)] := by simp [refP, refV]
theorem len_refP (st : List PI) : (refP st).length = st.length := by simp [refP, refV]
theorem rep_eq (x d : Nat) : (S (List.replicate x 32) == S (List.replicate d 32)) = decide (x = d) := by
 by_cases h : x = d
 ·subst h; simp
 ·have : S (List.replicate x 32) ≠ S (List.replicate d 32) := by
   intro e
   have := congrArg (fun s : Str => s.cps.toList.length) e
   simp at this
   exact h this
  simp [h, this]
section
variable {h₀ : HS} {w : World} {b lay : Bool} {z1 : Z1} {z2 : Z2} {z3 : Z3} {z7 : Z7} (O : (Bw w b h₀).Ok) {A₀ : Around} (hA : AOk A₀ 200) (hsz : 186 ≤ h₀.h.objs.size) {R : Result → Shared → Prop} {dr : Drawn} {os : OsState} {pa pd pk qk : Nat} {gl : List GenState}
noncomputable def piF (w : World) (lay : Bool) (z1 : Z1) (z2 : Z2) (z3 : Z3) (z7 : Z7) (pa pk q1 q2 q3 oa ba : Nat) (vd : Value) : Obj := lawG w lay z1 z2 z3 z7 22 [en w c_pile pk (.ref (pa + 186)), en w c_depth q1 vd, en w [111, 110, 101] q2 (.ref (oa + 186)), en w c_below q3 (.ref (ba + 186))]
noncomputable def pdO (w : World) (qk : Nat) : Obj := dictO 1 [en w c_iniize qk (.int 0 286)]
noncomputable def belO (bel : Option PI) (ba b1 b3 : Nat) : Addr × Obj := match bel with
 | none => (ba + 186, tupO [.str (S []) b1, .str (S []) b3])
 | some p => (ba + 186, tupO [.str (S (List.replicate p.d 32)) b1, .str (S [46]) b3])
include O hA hsz
theorem pw_run : ∀ (st : List PI) (x : PI) (n t pe q1 q2 q3 oa o1 o2 d : Nat) (vd : Value) (r : Led) (h : Heap), st.length < 100 → pushOk (x.d :: st.map (·.d)) d →
  St (Bw w b h₀) h ((z1.n + 186, piF (wf w b) lay z1 z2 z3 z7 pa pk q1 q2 q3 oa x.a vd) :: (pa + 186, rowO (pd + 186) (refP st) pe) :: (pd + 186, pdO (wf w b) qk) :: (oa + 186, tupO [.str (S (List.replicate d 32)) o1, .str (S [46]) o2]) :: x.led :: (st.map PI.led ++ r)) (n + 186) →
  (∀ (h' : Heap) (n' t' pe' oa' o1' o2' d' ba b1 b3 : Nat) (bel : Option PI) (st' : List PI), st'.length ≤ st.length → d' :: (bel.toList ++ st').map (·.d) = pushD (x.d :: st.map (·.d)) d → (bel = none → st' = []) → St (Bw w b h₀) h' ((z1.n + 186, piF (wf w b) lay z1 z2 z3 z7 pa pk q1 q2 q3 oa' ba vd) :: (pa + 186, rowO (pd + 186) (refP st') pe') :: (pd + 186, pdO (wf w b) qk) :: (oa' + 186, tupO [.str (S (List.replicate d' 32)) o1', .str (S [46]) o2']) :: belO bel ba b1 b3 :: (st'.map PI.led ++ r)) (n' + 186) → R (.ok .next) (sh h' gl dr t' os)) →
  cA w b A₀ (whOf (piStmt (wf w b).params 2) (lawEnv (wf w b).params z1.n)) R (sh h gl dr t os)
 | st, x, n, t, pe, q1, q2, q3, oa, o1, o2, d, vd, r, h, hs, hok, S₀, next => by
  obtain ⟨h6, hok2⟩ := hok
  by_cases hx : x.d = d
  ·obtain ⟨h0, hok3⟩ := hok2 hx
   have hq : ((S (List.replicate x.d 32) == S (List.replicate d 32)) && (S [46] == S [46])) = true := by rw [rep_eq]; simp [hx]
   have hdr : (List.replicate d 32).drop 1 = List.replicate (d - 1) 32 := by simp
   have hpush : pushD (x.d :: st.map (·.d)) d = pushD (st.map (·.d)) (d - 1) := by
    show (if x.d = d then _ else _) = _
    rw [if_pos hx]
   cases st with
   | nil =>
    refine pwTE_t (m := 0) (tp := 0) (vs := []) (bx := List.replicate x.d 32) (bY := [46]) (ox := List.replicate d 32) O hA hq (fun idx hidx => gap_slb (a := n) O (hA.le (by lia)) hsz hidx h0 h6) S₀ fun ps0 h' t' S' => ?_
    rw [hdr] at S'
    have hq2 : ((S [] == S (List.replicate (d - 1) 32)) && (S [] == S [46])) = false := by
     have : (S [] == S [46]) = false := by decide +kernel
     rw [this]
     simp
    refine pwF_t (m := 0) (tp := 0) (bx := []) (bY := []) (ox := List.replicate (d - 1) 32) (ba := (ps0 0).fresh 0 + 5) (oa := (ps0 0).fresh 0) O (hA.le (by lia)) hq2 S' fun h' t' S2 => ?_
    exact next h' _ t' pe _ _ _ (d - 1) _ _ _ none [] (Nat.le_refl _) (by rw [hpush]; rfl) (fun _ => rfl) S2
   | cons y st =>
    rw [refP_cons] at S₀
    refine pwTN_t (m := st.length) (tp := y.a) (vs := refP st) (bx := List.replicate x.d 32) (bY := [46]) (ox := List.replicate d 32) O hA hq (by simp [len_refP]) (by rw [len_refP]; simp at hs; lia) (fun idx hidx => gap_slb (a := n) O (hA.le (by lia)) hsz hidx h0 h6) S₀ fun ps0 h' t' S' => ?_
    rw [hdr] at S'
    exact pw_run st y _ _ _ _ _ _ _ _ _ (d - 1) _ _ _ (by simp at hs; lia) hok3 S' fun h' n' t' pe' oa' o1' o2' d' ba b1 b3 bel st' hl hp hb S2 => next h' n' t' pe' oa' o1' o2' d' ba b1 b3 bel st' (by simp; lia) (by rw [hpush]; exact hp) hb S2
  ·have hq : ((S (List.replicate x.d 32) == S (List.replicate d 32)) && (S [46] == S [46])) = false := by rw [rep_eq]; simp [hx]
   refine pwF_t (m := 0) (tp := 0) (bx := List.replicate x.d 32) (bY := [46]) (ox := List.replicate d 32) O (hA.le (by lia)) hq S₀ fun h' t' S2 => ?_
   refine next h' _ t' pe _ _ _ d _ _ _ (some x) st (Nat.le_refl _) ?_ (fun e => by cases e) S2
   show _ = (if x.d = d then _ else _)
   rw [if_neg hx]
   rfl
end
section
variable {h₀ : HS} {w : World} {b : Bool} (O : (Bw w b h₀).Ok) {A₀ : Around} (hA : AOk A₀ 140) {R : Result → Shared → Prop} {dr : Drawn} {os : OsState} {h : Heap}
include O hA
theorem piZ_t {z1 : Z1} {z7 : Z7} {n t it i : Nat} {r : Led} {gl : List GenState} (hx : (intV z7.dl)[i]? = none) (S₀ : St (Bw w b h₀) h ((it + 186, liO (z7.de + 186) i) :: (z7.de + 186, listO (intV z7.dl) z7.d0) :: r) (n + 186))
  (next : ∀ h' t', St (Bw w b h₀) h' ((z7.de + 186, listO (intV z7.dl) z7.d0) :: r) ((n + 188)) → R (.ok PySem.Flow.next) (sh h' gl dr t' os)) :
  cA w b A₀ (forOf (lawStmt (wf w b).params 17) (it + 186) (lawEnv (wf w b).params z1.n)) R (sh h gl dr t os) := by
 exact code_run (f := 13) (ls := [1, 1, 1]) (qs := [(1, .mov [0, 1] [((it + 186), lI (z7.de + 186) (Int.ofNat i)), ((z7.de + 186), listO ((intV z7.dl)) z7.d0)] (bi "list_iterator.__next__" [.ref (it + 186)]) (fun n t => .error (.ref (n + 1))) 0 [liE i] (fun n => [tupO [], stopO n]))]) O hA  (aC (mov_li_end _ _ _ _ _ _ rfl hx) <| aN) (fine_done (is := [3]) (d := 4) (Vw.Is.eq (by refine Bool.rec ?_ ?_ b <;> and_intros <;> kernel_rfl)) rfl (next)) S₀
end
noncomputable def pileOk : List Nat → List Nat → Prop
 | st, [] => True
 | st, d :: ds => 0 < d ∧ pushOk st d ∧ pileOk (pushD st d) ds
section
variable {h₀ : HS} {w : World} {b lay : Bool} {z1 : Z1} {z2 : Z2} {z3 : Z3} {z7 : Z7} (O : (Bw w b h₀).Ok) {A₀ : Around} (hA : AOk A₀ 300) (hsz : 186 ≤ h₀.h.objs.size) {R : Result → Shared → Prop} {dr : Drawn} {os : OsState} {pa pd pk qk it : Nat} {gl : List GenState}
noncomputable def dpL (z7 : Z7) : Addr × Obj := (z7.de + 186, listO (intV z7.dl) z7.d0)
noncomputable def pfr (w : World) (lay : Bool) (z1 : Z1) (z2 : Z2) (z3 : Z3) (z7 : Z7) (pa pk q1 q2 q3 : Nat) (vd vo vb : Value) : Obj := lawG w lay z1 z2 z3 z7 22 [en w c_pile pk (.ref (pa + 186)), en w c_depth q1 vd, en w [111, 110, 101] q2 vo, en w c_below q3 vb]
include O hA hsz
theorem pi_body (i : Nat) (hi : i < 100) (κ : RK) (hκ : κ = kpi w b z1.n it) (hd : depOk A₀ κ) (hrl : κ.rlen = 1) (hkl : κ.len = 1) (st : List PI) (hst : st.length ≤ i) (d n t pe q1 q2 q3 o1 o2 oa : Nat) (vd : Value) (r : Led) (h : Heap) (h0 : 0 < d) (hok : pushOk (st.map (·.d)) d)
  (S₀ : match (generalizing := false) st with
   | [] => ∃ ba b1 b3, St (Bw w b h₀) h ((z1.n + 186, piF (wf w b) lay z1 z2 z3 z7 pa pk q1 q2 q3 oa ba vd) :: (pa + 186, rowO (pd + 186) [] pe) :: (pd + 186, pdO (wf w b) qk) :: (oa + 186, tupO [.str (S (List.replicate d 32)) o1, .str (S [46]) o2]) :: (ba + 186, tupO [.str (S []) b1, .str (S []) b3]) :: r) (n + 186)
   | x :: st => St (Bw w b h₀) h ((z1.n + 186, piF (wf w b) lay z1 z2 z3 z7 pa pk q1 q2 q3 oa x.a vd) :: (pa + 186, rowO (pd + 186) (refP st) pe) :: (pd + 186, pdO (wf w b) qk) :: (oa + 186, tupO [.str (S (List.replicate d 32)) o1, .str (S [46]) o2]) :: x.led :: (st.map PI.led ++ r)) (n + 186))
  (next : ∀ (h' : Heap) (n' t' pe' q2 q3 : Nat) (vd vo vb : Value) (st' : List PI), st'.length ≤ i + 1 → st'.map (·.d) = pushD (st.map (·.d)) d → st' ≠ [] → St (Bw w b h₀) h' ((z1.n + 186, pfr (wf w b) lay z1 z2 z3 z7 pa pk q1 q2 q3 vd vo vb) :: (pa + 186, rowO (pd + 186) (refP st') pe') :: (pd + 186, pdO (wf w b) qk) :: (st'.map PI.led ++ r)) (n' + 186) → cA w b A₀ (forOf (lawStmt (wf w b).params 17) (it + 186) (lawEnv (wf w b).params z1.n)) R (sh h' gl dr t' os)) :
  cA w b (arnd A₀ κ) (whOf (piStmt (wf w b).params 2) (lawEnv (wf w b).params z1.n)) (endK (Bw w b h₀) A₀ R κ) (sh h gl dr t os) := by
 have hA2 : AOk (arnd A₀ κ) 200 := AOk.over (d := 200) (hA.le (by lia)) hd
 have hA3 : AOk A₀ 200 := hA.le (by lia)
 have hl : κ.rlen = 0 + 1 := hrl
 cases st with
 | nil =>
  obtain ⟨ba, b1, b3, S₀⟩ := S₀
  have hne : ((S [] == S (List.replicate d 32)) && (S [] == S [46])) = false := by
   have : (S [] == S [46]) = false := by decide +kernel
   rw [this]; simp
  refine pwF_t (m := 0) (tp := 0) (bx := []) (bY := []) (ox := List.replicate d 32) O (hA2.le (by lia)) hne S₀ fun h' t' S2 => ?_
  refine pbF_t (vs2 := []) (bx := []) (bY := []) (n2 := n) O hA3 hκ hl hd (by decide +kernel) (by simp) S2 fun h' t' S3 => ?_
  refine next h' (n + 3) t' (pe + 1) q2 q3 vd (.ref (oa + 186)) (.ref (ba + 186)) [⟨n + 2, o1, o2, d⟩] (by simp) rfl (by simp) ?_
  exact S3
 | cons x st =>
  refine pw_run O hA2 hsz st x n t pe q1 q2 q3 oa o1 o2 d vd r h (by simp at hst; lia) hok S₀ fun h' n' t' pe' oa' o1' o2' d' ba b1 b3 bel st' hl' hp hb S2 => ?_
  cases bel with
  | none =>
   have := hb rfl
   subst this
   refine pbF_t (vs2 := refP []) (bx := []) (bY := []) (n2 := n') O hA3 hκ hl hd (by decide +kernel) (by simp [refP, refV]) S2 fun h' t' S3 => ?_
   refine next h' (n' + 3) t' (pe' + 1) q2 q3 vd (.ref (oa' + 186)) (.ref (ba + 186)) [⟨n' + 2, o1', o2', d'⟩] (by simp) ?_ (by simp) ?_
   ·rw [← show _ = pushD ((x :: st).map (·.d)) d from hp]; rfl
   ·exact S3
  | some p =>
   have hq : (!((S (List.replicate p.d 32) == S []) && (S [46] == S []))) = true := by
    have : (S [46] == S []) = false := by decide +kernel
    rw [this]; simp
   refine pbT_t (vs2 := refP st') (bx := List.replicate p.d 32) (bY := [46]) (n2 := n') O hA3 hκ hl hd hq (by rw [len_refP]; simp at hst; lia) S2 fun h' t' S3 => ?_
   refine next h' (n' + 5) t' (pe' + 1 + 1) q2 q3 vd (.ref (oa' + 186)) (.ref (ba + 186)) (⟨n' + 4, o1', o2', d'⟩ :: ⟨n' + 2, b1, b3, p.d⟩ :: st') (by simp at hst ⊢; lia) ?_ (by simp) ?_
   ·rw [← show _ = pushD ((x :: st).map (·.d)) d from hp]; rfl
   ·rw [refP_cons, refP_cons]
    exact S3.perm ((List.Perm.swap _ _ _).cons _ |>.cons _ |>.cons _)
theorem pt_run : ∀ (ds : List Nat) (i : Nat) (st : List PI) (n t pe q1 q2 q3 : Nat) (vd vo vb : Value) (r : Led) (h : Heap), z7.dl.length = i + ds.length → i + ds.length < 90 → (z7.dl.drop i).map (·.1) = ds → st ≠ [] → st.length ≤ i → pileOk (st.map (·.d)) ds →
  St (Bw w b h₀) h ((z1.n + 186, pfr (wf w b) lay z1 z2 z3 z7 pa pk q1 q2 q3 vd vo vb) :: (it + 186, liO (z7.de + 186) i) :: (z7.de + 186, listO (intV z7.dl) z7.d0) :: (pa + 186, rowO (pd + 186) (refP st) pe) :: (pd + 186, pdO (wf w b) qk) :: (st.map PI.led ++ r)) (n + 186) →
  (∀ (h' : Heap) (n' t' pe' q1 q2 q3 : Nat) (vd vo vb : Value) (st' : List PI), st'.map (·.d) = ds.foldl pushD (st.map (·.d)) → St (Bw w b h₀) h' ((z1.n + 186, pfr (wf w b) lay z1 z2 z3 z7 pa pk q1 q2 q3 vd vo vb) :: (pa + 186, rowO (pd + 186) (refP st') pe') :: (pd + 186, pdO (wf w b) qk) :: (st'.map PI.led ++ dpL z7 :: r)) (n' + 186) → R (.ok .next) (sh h' gl dr t' os)) →
  cA w b A₀ (forOf (lawStmt (wf w b).params 17) (it + 186) (lawEnv (wf w b).params z1.n)) R (sh h gl dr t os)
 | [], i, st, n, t, pe, q1, q2, q3, vd, vo, vb, r, h, hlen, h90, hdr, hne, hst, hok, S₀, next => by
  have hx : (intV z7.dl)[i]? = none := by simp [intV]; simpa using Nat.le_of_eq hlen
  refine piZ_t (n := n) (r := (z1.n + 186, pfr (wf w b) lay z1 z2 z3 z7 pa pk q1 q2 q3 vd vo vb) :: (pa + 186, rowO (pd + 186) (refP st) pe) :: (pd + 186, pdO (wf w b) qk) :: (st.map PI.led ++ r)) O (hA.le (by lia)) hx (S₀.perm (List.perm_middle (l₁ := [(it + 186, liO (z7.de + 186) i), (z7.de + 186, listO (intV z7.dl) z7.d0)]))) fun h' t' S' => ?_
  refine next h' (n + 2) t' pe q1 q2 q3 vd vo vb st rfl (S'.perm ?_)
  exact (List.perm_middle (a := dpL z7) (l₁ := (z1.n + 186, pfr (wf w b) lay z1 z2 z3 z7 pa pk q1 q2 q3 vd vo vb) :: (pa + 186, rowO (pd + 186) (refP st) pe) :: (pd + 186, pdO (wf w b) qk) :: st.map PI.led) (l₂ := r))
 | d :: ds, i, st, n, t, pe, q1, q2, q3, vd, vo, vb, r, h, hlen, h90, hdr, hne, hst, ⟨h0, hok, hok2⟩, S₀, next => by
  have hi : i < z7.dl.length := by simp at hlen; lia
  rw [List.drop_eq_getElem_cons hi, List.map_cons] at hdr
  injection hdr with hdr1 hdr2
  obtain ⟨dt, hx⟩ : ∃ dt, z7.dl[i]? = some (d, dt) := ⟨(z7.dl[i]).2, by rw [List.getElem?_eq_getElem hi, ← hdr1]⟩
  have hx2 : (intV z7.dl)[i]? = some (.int (Int.ofNat d) dt) := by simp [intV, hx]
  cases st with
  | nil => exact absurd rfl hne
  | cons y st =>
   have h6 : d ≤ 6 := by
    simp [pushOk] at hok
    exact hok.1
   rw [refP_cons] at S₀
   refine paNB_t (m := st.length) (tp := y.a) (vs := refP st) (dv := d) (dt := dt) O (hA.le (by lia)) hx2 (by simp [len_refP]) (by rw [len_refP]; simp at hst; lia) (fun t0 idx hidx => gap_mulb O (hA.le (by lia)) hsz hidx h0 h6) S₀ fun ps0 κ hκ hd hrl hkl h' t' S' => ?_
   refine pi_body (lay := lay) (z2 := z2) (z3 := z3) (z7 := z7) (pa := pa) (pd := pd) (pk := pk) (qk := qk) O hA hsz (i := i) (by lia) κ hκ hd hrl hkl (y :: st) hst d ((ps0 0).fresh 0 + 7) t' (pe + 1) q1 q2 q3 ((ps0 0).fresh 2) ((ps0 0).fresh 1) ((ps0 0).fresh 0) (.int (Int.ofNat d) dt) ((it + 186, liO (z7.de + 186) (i + 1)) :: (z7.de + 186, listO (intV z7.dl) z7.d0) :: r) h' h0 hok ?_ fun h2 n2 t2 pe2 q2' q3' vd2 vo2 vb2 st2 hl2 hp2 hne2 S2 => ?_
   ·refine S'.perm (List.Perm.symm ?_)
    refine List.Perm.cons _ ?_
    refine (List.perm_append_comm (l₁ := [(it + 186, liO (z7.de + 186) (i + 1)), (z7.de + 186, listO (intV z7.dl) z7.d0)]) (l₂ := _ :: _ :: _ :: y.led :: (st.map PI.led ++ r))).trans ?_
    refine List.Perm.cons _ (List.Perm.cons _ (List.Perm.cons _ (List.Perm.cons _ ?_)))
    refine (List.Perm.of_eq (List.append_assoc (st.map PI.led) r _)).trans ?_
    exact (List.perm_append_comm (l₁ := r) (l₂ := [(it + 186, liO (z7.de + 186) (i + 1)), (z7.de + 186, listO (intV z7.dl) z7.d0)])).append_left _
   ·refine pt_run ds (i + 1) st2 n2 t2 pe2 q1 q2' q3' vd2 vo2 vb2 r h2 (by simp at hlen; lia) (by simp at h90; lia) hdr2 hne2 hl2 (by rw [hp2]; exact hok2) ?_ fun h' n' t' pe' q1 q2 q3 vd vo vb st' hf S3 => next h' n' t' pe' q1 q2 q3 vd vo vb st' (by rw [hf, hp2]; rfl) S3
    refine S2.perm ?_
    refine List.Perm.cons _ ?_
    exact List.perm_append_comm_assoc [(it + 186, liO (z7.de + 186) (i + 1)), (z7.de + 186, listO (intV z7.dl) z7.d0)] ((pa + 186, rowO (pd + 186) (refP st2) pe2) :: (pd + 186, pdO (wf w b) qk) :: st2.map PI.led) r
theorem pile_run (ds : List Nat) (hlen : z7.dl.length = ds.length) (h90 : ds.length < 90) (hdl : z7.dl.map (·.1) = ds) (hne : ds ≠ []) (hok : pileOk [] ds) (n t pe : Nat) (r : Led) (h : Heap)
  (S₀ : St (Bw w b h₀) h ((z1.n + 186, lawG (wf w b) lay z1 z2 z3 z7 19 [en (wf w b) c_pile pk (.ref (pa + 186))]) :: (it + 186, liO (z7.de + 186) 0) :: (z7.de + 186, listO (intV z7.dl) z7.d0) :: (pa + 186, rowO (pd + 186) [] pe) :: (pd + 186, pdO (wf w b) qk) :: r) (n + 186))
  (next : ∀ (h' : Heap) (n' t' pe' q1 q2 q3 : Nat) (vd vo vb : Value) (st' : List PI), st'.map (·.d) = ds.foldl pushD [] → St (Bw w b h₀) h' ((z1.n + 186, pfr (wf w b) lay z1 z2 z3 z7 pa pk q1 q2 q3 vd vo vb) :: (pa + 186, rowO (pd + 186) (refP st') pe') :: (pd + 186, pdO (wf w b) qk) :: (st'.map PI.led ++ dpL z7 :: r)) (n' + 186) → R (.ok .next) (sh h' gl dr t' os)) :
  cA w b A₀ (forOf (lawStmt (wf w b).params 17) (it + 186) (lawEnv (wf w b).params z1.n)) R (sh h gl dr t os) := by
 cases ds with
 | nil => exact absurd rfl hne
 | cons d ds =>
  obtain ⟨h0, hok, hok2⟩ := hok
  obtain ⟨⟨x0, dt⟩, xs, hz⟩ : ∃ x xs, z7.dl = x :: xs := by
   cases hz : z7.dl with
   | nil => rw [hz] at hlen; simp at hlen
   | cons x xs => exact ⟨x, xs, rfl⟩
  have hxd : x0 = d ∧ xs.map (·.1) = ds := by rw [hz] at hdl; simpa using hdl
  have hx2 : (intV z7.dl)[0]? = some (.int (Int.ofNat d) dt) := by simp [intV, hz, hxd.1]
  refine paEA_t (m := 0) (dv := d) (dt := dt) O (hA.le (by lia)) hx2 (fun t0 idx hidx => gap_mulb O (hA.le (by lia)) hsz hidx h0 hok) S₀ fun ps0 κ hκ hd hrl hkl h' t' S' => ?_
  refine pi_body (lay := lay) (z2 := z2) (z3 := z3) (z7 := z7) (pa := pa) (pd := pd) (pk := pk) (qk := qk) O hA hsz (i := 0) (by lia) κ hκ hd hrl hkl [] (Nat.le_refl _) d ((ps0 0).fresh 0 + 6) t' pe t ((ps0 0).fresh 1 + 1) ((ps0 0).fresh 1 + 9) ((ps0 0).fresh 2) ((ps0 0).fresh 1) ((ps0 0).fresh 0) (.int (Int.ofNat d) dt) ((it + 186, liO (z7.de + 186) 1) :: (z7.de + 186, listO (intV z7.dl) z7.d0) :: r) h' h0 hok ⟨(ps0 0).fresh 0 + 5, (ps0 0).fresh 1 + 7, (ps0 0).fresh 1 + 8, ?_⟩ fun h2 n2 t2 pe2 q2' q3' vd2 vo2 vb2 st2 hl2 hp2 hne2 S2 => ?_
  ·refine S'.perm ?_
   refine List.Perm.cons _ ?_
   exact List.perm_append_comm_assoc [_, _, _, _] [(it + 186, liO (z7.de + 186) 1), (z7.de + 186, listO (intV z7.dl) z7.d0)] r
  ·refine pt_run O hA hsz ds 1 st2 n2 t2 pe2 t q2' q3' vd2 vo2 vb2 r h2 (by rw [hlen]; simp; lia) (by simp at h90; lia) (by rw [hz]; simpa using hxd.2) hne2 hl2 (by rw [hp2]; exact hok2) ?_ fun h' n' t' pe' q1 q2 q3 vd vo vb st' hf S3 => next h' n' t' pe' q1 q2 q3 vd vo vb st' (by rw [hf, hp2]; rfl) S3
   refine S2.perm ?_
   refine List.Perm.cons _ ?_
   exact List.perm_append_comm_assoc [(it + 186, liO (z7.de + 186) 1), (z7.de + 186, listO (intV z7.dl) z7.d0)] ((pa + 186, rowO (pd + 186) (refP st2) pe2) :: (pd + 186, pdO (wf w b) qk) :: st2.map PI.led) r
end
noncomputable def cat : List Led → Led
 | [] => []
 | [x] => x
 | x :: y :: r => x ++ cat (y :: r)
theorem cat_flat : ∀ l : List Led, cat l = l.flatten
 | [] => rfl
 | [x] => by simp [cat]
 | x :: y :: r => by
  show x ++ cat (y :: r) = x ++ (y :: r).flatten
  rw [cat_flat (y :: r)]
noncomputable def sel (L : List Led) (is : List Nat) : List Led := is.map fun i => L.getD i []
theorem perm_of (L : List Led) (js is : List Nat) (h : List.isPerm js is = true) : (cat (sel L js)).Perm (cat (sel L is)) := by
 rw [cat_flat, cat_flat]
 exact ((List.isPerm_iff.mp h).map _).flatten
noncomputable def mer {α : Type} (K p : Nat) (f : α) (l : List α) : List α := l.take p ++ [f] ++ (l.take K).drop p ++ l.drop (K + 2)
theorem mer_map {α β : Type} (g : α → β) (K p : Nat) (f : α) (l : List α) : (mer K p f l).map g = mer K p (g f) (l.map g) := by
 simp [mer, List.map_take, List.map_drop]
theorem mer_intV (K p b t : Nat) (l : PL) (h : p ≤ K) : sliceN none (some p) (intV l) ++ [.int (Int.ofNat b) t] ++ sliceN (some p) (some K) (intV l) ++ sliceN (some (K + 2)) none (intV l) = intV (mer K p (b, t) l) := by
 simp [sliceN, takeN, intV, mer, List.map_take, List.map_drop]
theorem mer_len {α : Type} (K p : Nat) (f : α) (l : List α) (hp : p ≤ K) (hK : K + 1 < l.length) : (mer K p f l).length + 1 = l.length := by
 simp [mer]
 omega
structure TurnOk (ws : List Nat) (K p wk wk1 : Nat) : Prop where
 hK : gwK ws ws.length 0 = K
 h0 : ws[K]? = some wk
 h1 : ws[K + 1]? = some wk1
 hp : p ≤ K
 hm : 1 + mxJ (gwJ (wk + wk1) (ws.take K) 0) (-1) = Int.ofNat p
 hb : ∀ kl : List Nat, bisF (fun i => decide (mxAt (kl ++ ws) i < wk + wk1)) (kl.length + K - kl.length) kl.length (kl.length + K) = kl.length + p
structure PcOk (p : Pc) (L : List Wd) : Prop where
 hx : p.x ≠ []
 hy : p.y ≠ []
 text : p.x ++ p.y = wtx L
 len : p.x.length + p.y.length ≤ 15 * L.length
 wds : ∀ w ∈ L, allWs w ∧ w.ws ≠ [] ∧ w.i < 6
theorem wtx_app (A B : List Wd) : wtx (A ++ B) = wtx A ++ wtx B := by
 induction A with
 | nil => rfl
 | cons a A ih => simp [wtx, ih]
noncomputable def tlE (w : World) (z1 : Z1) (z2 : Z2) (z3 : Z3) (y : ZT) (j jl : Nat) (bc : Obj) (T : Led) (rv : List Value) (R : Led) : Led :=
 (y.it + 186, rangeItO j jl) :: (z1.n + 188, cellO (.ref (y.we + 186))) :: (z1.n + 189, cellO (.ref (y.de + 186))) :: (z1.n + 190, bc) :: (y.we + 186, listO (intV y.wl) y.wep) :: (y.ke + 186, listO (intV y.kl) y.kep) :: (y.de + 186, listO (intV y.dl) y.d0) ::
  (z3.n + 210, rowO (z3.n + 209) rv y.rep) :: (z3.n + 209, rowDO w z3) :: (y.c1 + 186, codeO y.v0 y.q y.ctq y.rs) :: (158, tabO [.int 108 0, .int 4 0, .ref (y.c1 + 186), .int 112 0, .int 13 0, .ref (y.c2 + 186)]) :: (z2.n + 186, namesO z2) :: (T ++ R)
noncomputable def tlC (w : World) (z1 : Z1) (z2 : Z2) (z3 : Z3) (y : ZT) (j jl : Nat) (bc : Obj) (T : Led) (qs : List Pc) : Led := tlE w z1 z2 z3 y j jl bc T (refV (qs.map (·.a))) (qs.map Pc.led ++ y.r)
noncomputable def lexJ (w : World) (X : LX) (ln tl p tp : Nat) : Led :=
 [(X.lx + 186, instO 59 (X.dx + 186)), (X.dx + 186, lexD w X ln tl), (X.al + 186, listO [.int (Int.ofNat p) tp] 0), (X.pb + 186, listO [] 0),
 (X.st + 186, lamO (X.sd + 186) X.dt), (X.sd + 186, dictO 1 [en w [114, 101, 97, 100] X.kr (.ref (X.rf + 186))]),
 (X.rf + 186, readO w.params (X.tc + 186) (X.ac + 186) (X.cd + 186) (X.ct + 186) X.km),
 (X.tc + 186, cellO (.str X.text X.tk)), (X.ac + 186, cellO (.ref (X.al + 186)))]
theorem get_map {l : PL} {i a : Nat} (h : (l.map (·.1))[i]? = some a) : ∃ t, l[i]? = some (a, t) := by
 rw [List.getElem?_map] at h
 cases q : l[i]? with
 | none => rw [q] at h; cases h
 | some x =>
  rw [q] at h
  injection h with h
  exact ⟨x.2, by rw [← h]⟩
theorem split_at2 {α : Type} : ∀ (l : List α) (K : Nat), K + 1 < l.length → ∃ pre a b post, l = pre ++ a :: b :: post ∧ pre.length = K
 | l, K, h => ⟨l.take K, l[K], l[K + 1], l.drop (K + 2), by
   conv => lhs; rw [← List.take_append_drop K l]
   rw [List.drop_eq_getElem_cons (by omega), List.drop_eq_getElem_cons h], by simp; omega⟩
noncomputable def tb0 : Led := [(172, tabO [])]
noncomputable def tbK (zk : ZK) : Led := [(172, tabO [.int 125 0, .int 79 0, .ref (zk.c3 + 186)]), (zk.c3 + 186, codeO zk.w0 zk.wq zk.wtq zk.wrs)]
noncomputable def frTA (w : World) (lay : Bool) (z1 : Z1) (z2 : Z2) (z3 : Z3) (y : ZT) : Obj := lawA w lay z1 z2 z3 11 (es1 w y ++ [en w c_kept y.k6 (.ref (y.ke + 186))])
noncomputable def frTB (w : World) (lay : Bool) (z1 : Z1) (z2 : Z2) (z3 : Z3) (y : ZT) : Obj := lawB w lay z1 z2 z3 18 y.kt y.kv (es1 w y ++ [en w c_kept y.k6 (.ref (y.ke + 186)), en w c_turn y.k7 y.v7]) (es2 w y)
theorem incD_len : ∀ (is dl : List Nat), (is.foldl incD dl).length = dl.length
 | [], dl => rfl
 | i :: is, dl => by
  show ((is.foldl incD (incD dl i))).length = _
  rw [incD_len is]
  simp [incD]
theorem tjA {h₀ : HS} {w : World} {b lay : Bool} {z1 : Z1} {z2 : Z2} {z3 : Z3} {y : ZT} {zk : ZK} {j jl K place nl : Nat} {wk tk0 wk1 tk1 : Nat} {js : List Nat} {mx : Int} {kz : Bool} (O : (Bw w b h₀).Ok) {A₀ : Around} (hA : AOk A₀ 300) {R : Result → Shared → Prop} {dr : Drawn} {os : OsState}  (hsz : 186 ≤ h₀.h.objs.size) (hKd : gwK (y.wl.map (·.1)) y.wl.length 0 = K) (hwk : (intV y.wl)[K]? = some (.int (Int.ofNat wk) tk0)) (hwk1 : (intV y.wl)[K + 1]? = some (.int (Int.ofNat wk1) tk1)) (hK : K < 100) (hkl : (intV y.kl).length = y.ml) (hml : y.ml < 100) (hwl : y.wl.length < 100) (hjs : js.length < 100) (hmx : 1 + mx = Int.ofNat place) (hpre : y.pre.length = K) (hpost : y.post.length < 100)
 (hnl : nl = (y.kl ++ y.wl).length) (hnl' : (intV (y.kl ++ y.wl)).length = nl) (hnl2 : nl < 900) (hnl0 : y.ml + K < nl) (hres : bisF (fun i => decide (mxAt ((y.kl ++ y.wl).map (·.1)) i < wk + wk1)) (y.ml + K - y.ml) y.ml (y.ml + K) = y.ml + place) (hKw : K ≤ y.wl.length) (hkz : kz = decide (K = 0)) (hjd : gwJ (wk + wk1) ((y.wl.take K).map (·.1)) 0 = js) (hmx1 : mxJ js (-1) = mx)
 (hx0 : y.x0 ≠ []) (hy0 : y.y0 ≠ []) (hx1 : y.x1 ≠ []) (hy1 : y.y1 ≠ []) (lx0 : y.x0.length < 100) (ly0 : y.y0.length < 100) (lx1 : y.x1.length < 100) (ly1 : y.y1.length < 100) {preT rest : List Pc} {r0 : Led} (hr : y.r = (z2.n + 186, namesO z2) :: (preT.map Pc.led ++ (rest.map Pc.led ++ r0))) (hrest : refV (List.drop place y.pre) ++ refV y.post = refV (rest.map (·.a))) (hpK : place ≤ K) {W0 : Wd} {Lr : List Wd} (htext : y.x0 ++ y.y0 ++ y.x1 ++ y.y1 = wtx (W0 :: Lr)) (hwd : ∀ v ∈ W0 :: Lr, allWs v ∧ v.ws ≠ [] ∧ v.i < 6) (hdl6 : y.dl.length = 6) (hlen2 : 2 ≤ (y.x0 ++ y.y0 ++ y.x1 ++ y.y1).length) (hre : rest.length < 50) (hpre2 : y.pre.length < 50) {h : Heap} (S₀ : St (Bw w b h₀) h ((z1.n + 186, lawA (wf w b) lay z1 z2 z3 11 (es1 (wf w b) y ++ [en (wf w b) c_kept y.k6 (.ref (y.ke + 186))])) :: (y.it + 186, rangeItO j (jl + 1)) :: (z1.n + 188, cellO (.ref (y.we + 186))) :: (z1.n + 189, cellO (.ref (y.de + 186))) :: (z1.n + 190, cell0) :: (y.we + 186, listO (intV y.wl) y.wep) :: (y.ke + 186, listO (intV y.kl) y.kep) :: (y.de + 186, listO (intV y.dl) y.d0) :: (z3.n + 210, rowO (z3.n + 209) (refV y.pre ++ (.ref (y.a0 + 186) :: .ref (y.a1 + 186) :: refV y.post)) y.rep) :: (z3.n + 209, dictO 1 [en (wf w b) c_iniize (z3.t + 46) (.int 0 286)]) :: (y.a0 + 186, tupO [.str (S y.x0) y.tx0, .str (S y.y0) y.ty0]) :: (y.a1 + 186, tupO [.str (S y.x1) y.tx1, .str (S y.y1) y.ty1]) :: (y.c1 + 186, codeO y.v0 y.q y.ctq y.rs) :: (158, tabO [.int 108 0, .int 4 0, .ref (y.c1 + 186), .int 112 0, .int 13 0, .ref (y.c2 + 186)]) :: (172, tabO []) :: y.r) (y.n + 186))
  (next : ∀ (h' : Heap) (y' : ZT) (zk' : ZK) (mp : Pc) (news : List Pc), y'.it = y.it → y'.wl.map (·.1) = mer K place (wk + wk1) (y.wl.map (·.1)) → y'.kl = y.kl ++ y.wl → y'.ml = nl → y'.dl.length = 6 → y'.dl.map (·.1) = ((W0 :: Lr).map (·.i)).foldl incD (y.dl.map (·.1)) → mp.xy = (y.x0, y.y0 ++ y.x1 ++ y.y1) → news.map Pc.xy = rest.map Pc.xy → (∃ J : Led, y'.r = J ++ ((y.we + 186, listO (intV y.wl) y.wep) :: r0)) →
   St (Bw w b h₀) h' ((z1.n + 186, frTB (wf w b) lay z1 z2 z3 y') :: tlE (wf w b) z1 z2 z3 y' (j + 1) jl (cellO y'.bv) (tbK zk') (refV (List.take place y.pre) ++ [.ref (mp.a + 186)] ++ refV (news.map (·.a))) (preT.map Pc.led ++ (mp.led :: (news.map Pc.led ++ y'.r)))) (y'.n + 186) → cA w b A₀ (forOf (lawStmt (wf w b).params 14) (y.it + 186) (lawEnv (wf w b).params z1.n)) R (sh h' [.finished, .finished] dr y'.t os)) :
  cA w b A₀ (forOf (lawStmt (wf w b).params 14) (y.it + 186) (lawEnv (wf w b).params z1.n)) R (sh h [.finished, .finished] dr y.t os) := by
 refine tnA_t (zk := zk) O (hA.le (by lia)) hsz hKd hwk hwk1 hK hkl hml hwl hjs hmx hpre hpost hnl hnl' hnl2 hnl0 hres hKw hkz hjd hmx1 hx0 hy0 hx1 hy1 lx0 ly0 lx1 ly1 S₀ fun ps0 κ hκ hd hrl hkl h' t' S' => ?_
 rw [hr, hrest, rIt, mer_intV K place (wk + wk1) ((SX.fresh (ps0 0)) 1 + 2) y.wl hpK] at S'
 have S2 := S'.perm (perm_of [[_], [_], [_], [_], [_], [_], [_], [_], [_], [_], [_], [_], [_], lexLed (wf w b) (lxtnA w b lay z1 z2 z3 y zk j jl K place nl wk tk0 wk1 tk1 js mx kz ps0) 1 (((SX.fresh (ps0 4)) 1) + 42) 0 (((SX.fresh (ps0 4)) 1) + 35) [] 0, [_], [_], [_], [_], [_], preT.map Pc.led, rest.map Pc.led, r0] [0, 12, 11, 8, 9, 20, 1, 2, 3, 4, 5, 6, 7, 10, 13, 14, 15, 16, 18, 19, 17, 21] [0, 1, 2, 3, 4, 5, 6, 7, 8, 9, 10, 11, 12, 13, 14, 15, 16, 17, 18, 19, 20, 21] (by decide))
 refine pu_run (lay := lay) (z1 := z1) (z2 := z2) (z3 := z3) (f := ⟨18, (ck lay z2.kk (y.t + 3)), y.k1, y.k2, y.k3, y.k4, y.k5, y.k6, (y.t + 1), (.int (Int.ofNat K) ((SX.fresh (ps0 0)) 2)), ((y.v3)), ((y.v4)), (.ref ((SX.fresh (ps0 0)) 0 + 186)), (.int (Int.ofNat j) y.t), [en (wf w b) [108, 111, 119] ((SX.fresh (ps0 0)) 1 + 5) (.int (Int.ofNat y.ml) ((SX.fresh (ps0 0)) 1 + 4)), en (wf w b) c_place ((SX.fresh (ps0 2)) 1 + 1) (.int (Int.ofNat place) ((SX.fresh (ps0 2)) 1)), en (wf w b) [111, 102, 102] ((SX.fresh (ps0 4)) 1 + 6) (.ref ((SX.fresh (ps0 4)) 0 + 198)), en (wf w b) c_moved ((SX.fresh (ps0 4)) 1 + 10) (.ref ((SX.fresh (ps0 4)) 0 + 203)), en (wf w b) c_reader ((SX.fresh (ps0 4)) 1 + 52) (.ref ((SX.fresh (ps0 4)) 0 + 217))]⟩) (it := ((SX.fresh (ps0 4)) 0) + 37) (l := ((SX.fresh (ps0 4)) 0) + 36) (lep := 0) (v5 := y.v5) (ls := refV (rest.map (·.a))) (gl := [.finished, .finished]) O (AOk.over (d := 140) (hA.le (by lia)) hd) rest 0 (((SX.fresh (ps0 4)) 0) + 38) t' _ y.v1 y.v2 (refV (List.take place y.pre) ++ [Value.ref (((SX.fresh (ps0 4)) 0) + 21 + 186)]) _ h' rfl (by simp [refV]; lia) S2 fun h2 n2 t2 v1' v2' news rep' hxy S3 => ?_
 have S4 := S3.perm (perm_of [[_], [_], [_], news.map Pc.led, [_], [_], [_], [_], [_], [_], [_], [_], lexLed (wf w b) (lxtnA w b lay z1 z2 z3 y zk j jl K place nl wk tk0 wk1 tk1 js mx kz ps0) 1 (((SX.fresh (ps0 4)) 1) + 42) 0 (((SX.fresh (ps0 4)) 1) + 35) [] 0, [_], [_], [_], [_], preT.map Pc.led, ((y.we + 186, listO (intV y.wl) y.wep) :: r0)] [0, 12, 16, 6, 10, 1, 2, 3, 4, 5, 7, 8, 9, 11, 13, 14, 15, 17, 18] [0, 1, 2, 3, 4, 5, 6, 7, 8, 9, 10, 11, 12, 13, 14, 15, 16, 17, 18] (by decide))
 have htx : (lxtnA w b lay z1 z2 z3 y zk j jl K place nl wk tk0 wk1 tk1 js mx kz ps0).text.cps.toList = wtx (W0 :: Lr) := htext
 obtain ⟨hd2, hp2⟩ := read_one (text := (lxtnA w b lay z1 z2 z3 y zk j jl K place nl wk tk0 wk1 tk1 js mx kz ps0).text.cps.toList) (p := 0) (w := W0) (r := Lr) (fun v hv => ⟨(hwd v (.tail _ hv)).1, (hwd v (.tail _ hv)).2.1⟩) htx (Nat.zero_le _)
 have hX : 2 ≤ (lxtnA w b lay z1 z2 z3 y zk j jl K place nl wk tk0 wk1 tk1 js mx kz ps0).text.length := hlen2
 refine tnAe_t (pz := ps0) (u := ⟨n2, t2, v1', v2', (z3.n + 210, rowO (z3.n + 209) (refV (List.take place y.pre) ++ [Value.ref (((SX.fresh (ps0 4)) 0) + 21 + 186)] ++ refV (news.map (·.a))) rep') :: (z3.n + 209, rowDO (wf w b) z3) :: news.map Pc.led ++ ((y.it + 186, rangeItO (j + 1) jl) :: (z1.n + 188, cellO (.ref ((SX.fresh (ps0 4)) 0 + 195))) :: (z1.n + 190, cellO (.int (Int.ofNat (wk + wk1)) ((SX.fresh (ps0 0)) 1 + 2))) :: ((SX.fresh (ps0 4)) 0 + 195, listO (intV (mer K place (wk + wk1, (SX.fresh (ps0 0)) 1 + 2) y.wl)) 0) :: ((SX.fresh (ps0 0)) 0 + 186, listO ((intV (y.kl ++ y.wl))) 0) :: ((SX.fresh (ps0 4)) 0 + 207, tupO [.str (S y.x0) y.tx0, .str (S (y.y0 ++ y.x1 ++ y.y1)) ((SX.fresh (ps0 4)) 1 + 20)]) :: (158, tabO [.int 108 0, .int 4 0, .ref (y.c1 + 186), .int 112 0, .int 13 0, .ref (y.c2 + 186)]) :: (172, tabO [.int 125 0, .int 79 0, .ref ((SX.fresh (ps0 1)) 0 + 192)]) :: ((SX.fresh (ps0 1)) 0 + 192, codeO (kV0 ((SX.fresh (ps0 1)) 1)) kQ (((SX.fresh (ps0 1)) 1) + 2) (keyCd ((SX.fresh (ps0 1)) 0) ((SX.fresh (ps0 1)) 1))) :: preT.map Pc.led ++ (((y.we + 186, listO (intV y.wl) y.wep) :: r0)))⟩) (a1 := nA W0.i) (a2 := nB W0.i) (ln2 := (1 + cnt10 W0.ws + cnt10 (readT W0.qd (nA W0.i + 1) (nB W0.i + 1) (wtx Lr)))) (p2 := (0 + W0.ws.length + (readT W0.qd (nA W0.i + 1) (nB W0.i + 1) (wtx Lr)).length)) (ln3 := ((1 + cnt10 W0.ws + cnt10 (readT W0.qd (nA W0.i + 1) (nB W0.i + 1) (wtx Lr))) + cnt10 (wtx (cutW W0.qd Lr)))) (p3 := (lxtnA w b lay z1 z2 z3 y zk j jl K place nl wk tk0 wk1 tk1 js mx kz ps0).text.length) (dl2 := (((W0 :: Lr).map (·.i)).foldl incD (y.dl.map (·.1)))) O (hA.le (by lia)) hκ (ml := 0) hrl hd
  (fun idx hidx => gap_gt O hsz (hA.le (by lia)) hidx hX isLet_nB (fun _ => wtx_head fun v hv => ⟨(hwd v (.tail _ hv)).1, (hwd v (.tail _ hv)).2.1⟩) (hwd W0 (.head _)).1 htx rfl rfl)
  (fun t0 t1 t2 idx hidx => gap_rd (f := ⟨18, (ck lay z2.kk (y.t + 3)), y.k1, y.k2, y.k3, y.k4, y.k5, y.k6, (y.t + 1), (.int (Int.ofNat K) ((SX.fresh (ps0 0)) 2)), ((y.v3)), ((y.v4)), (.ref ((SX.fresh (ps0 0)) 0 + 186)), (.int (Int.ofNat j) y.t), [en (wf w b) [108, 111, 119] ((SX.fresh (ps0 0)) 1 + 5) (.int (Int.ofNat y.ml) ((SX.fresh (ps0 0)) 1 + 4)), en (wf w b) c_place ((SX.fresh (ps0 2)) 1 + 1) (.int (Int.ofNat place) ((SX.fresh (ps0 2)) 1)), en (wf w b) [111, 102, 102] ((SX.fresh (ps0 4)) 1 + 6) (.ref ((SX.fresh (ps0 4)) 0 + 198)), en (wf w b) c_moved ((SX.fresh (ps0 4)) 1 + 10) (.ref ((SX.fresh (ps0 4)) 0 + 203)), en (wf w b) c_reader ((SX.fresh (ps0 4)) 1 + 52) (.ref ((SX.fresh (ps0 4)) 0 + 217))]⟩) (g := ⟨((SX.fresh (ps0 0)) 1 + 5), ((SX.fresh (ps0 2)) 1 + 1), ((SX.fresh (ps0 4)) 1 + 6), ((SX.fresh (ps0 4)) 1 + 10), ((SX.fresh (ps0 4)) 1 + 52), (.int (Int.ofNat y.ml) ((SX.fresh (ps0 0)) 1 + 4)), (.int (Int.ofNat place) ((SX.fresh (ps0 2)) 1)), (.ref ((SX.fresh (ps0 4)) 0 + 198)), (.ref ((SX.fresh (ps0 4)) 0 + 203))⟩) O (hA.le (by lia)) hsz hidx hX (hwd W0 (.head _)).2.2 hdl6 (fun v hv => ?_) (cutW_ok fun v hv => (hwd v (.tail _ hv)).1) (by rw [cutW_tl]; exact fun v hv => (hwd v (.tail _ (List.mem_of_mem_tail hv))).2.1) hd2 hp2 (by rw [cutW_i]; rfl) rfl rfl)
  S4 fun ps1 h3 t3 S5 => ?_
 ·have : v.i ∈ (cutW W0.qd Lr).map (·.i) := List.mem_map_of_mem hv
  rw [cutW_i] at this
  obtain ⟨v', hv', e⟩ := List.mem_map.mp this
  rw [← e]
  exact (hwd v' (.tail _ hv')).2.2
 ·have hd6 : (((W0 :: Lr).map (·.i)).foldl incD (y.dl.map (·.1))).length = 6 := by rw [incD_len, List.length_map, hdl6]
  refine next h3 { y with n := ((SX.fresh (ps1 1)) 0), t := t3, ke := ((SX.fresh (ps0 0)) 0), ml := nl, kt := (ck lay z2.kk (y.t + 3)), k1 := y.k1, k2 := y.k2, k3 := y.k3, k4 := y.k4, k5 := y.k5, k6 := y.k6, k7 := (y.t + 1), k8 := ((SX.fresh (ps0 0)) 1 + 5), k9 := ((SX.fresh (ps0 2)) 1 + 1), k10 := ((SX.fresh (ps0 4)) 1 + 6), k11 := ((SX.fresh (ps0 4)) 1 + 10), k12 := ((SX.fresh (ps0 4)) 1 + 52), we := ((SX.fresh (ps0 4)) 0) + 9, wep := 0, wl := mer K place (wk + wk1, (SX.fresh (ps0 0)) 1 + 2) y.wl, kl := y.kl ++ y.wl, kep := 0, dl := (((W0 :: Lr).map (·.i)).foldl incD (y.dl.map (·.1))).zip (frL (SX.fresh (ps1 1)) 6), rep := rep', kv := (.int (Int.ofNat K) ((SX.fresh (ps0 0)) 2)), v1 := v1', v2 := v2', v5 := .str (S []) ((SX.fresh (ps1 1)) 2), v7 := (.int (Int.ofNat j) y.t), v8 := (.int (Int.ofNat y.ml) ((SX.fresh (ps0 0)) 1 + 4)), v9 := (.int (Int.ofNat place) ((SX.fresh (ps0 2)) 1)), v10 := (.ref ((SX.fresh (ps0 4)) 0 + 198)), v11 := (.ref ((SX.fresh (ps0 4)) 0 + 203)), v12 := (.ref ((SX.fresh (ps0 4)) 0 + 217)), bv := .int (Int.ofNat (wk + wk1)) ((SX.fresh (ps0 0)) 1 + 2), r := lexJ (wf w b) (lxtnA w b lay z1 z2 z3 y zk j jl K place nl wk tk0 wk1 tk1 js mx kz ps0) ((1 + cnt10 W0.ws + cnt10 (readT W0.qd (nA W0.i + 1) (nB W0.i + 1) (wtx Lr))) + cnt10 (wtx (cutW W0.qd Lr))) ((SX.fresh (ps1 1)) 3) (lxtnA w b lay z1 z2 z3 y zk j jl K place nl wk tk0 wk1 tk1 js mx kz ps0).text.length ((SX.fresh (ps1 1)) 4) ++ ((y.we + 186, listO (intV y.wl) y.wep) :: r0) } ⟨(SX.fresh (ps0 1)) 0 + 6, (((SX.fresh (ps0 1)) 1) + 2), (kV0 ((SX.fresh (ps0 1)) 1)), kQ, (keyCd ((SX.fresh (ps0 1)) 0) ((SX.fresh (ps0 1)) 1))⟩ ⟨((SX.fresh (ps0 4)) 0) + 21, y.tx0, ((SX.fresh (ps0 4)) 1 + 20), y.x0, y.y0 ++ y.x1 ++ y.y1⟩ news rfl (by exact mer_map _ _ _ _ _) rfl rfl (by rw [List.length_zip, hd6]; simp [frL]) ?_ rfl hxy ⟨_, rfl⟩ (S5.perm (perm_of [[_], [_], [_], [_], [_], [_], [_], [_], [_], [_], [_], [_], [_], [_], [_], [_], news.map Pc.led, [_], [_], [_], [_], [_], [_], [_], [_], [_], preT.map Pc.led, ((y.we + 186, listO (intV y.wl) y.wep) :: r0)] [0, 17, 18, 13, 19, 20, 21, 11, 14, 15, 8, 23, 12, 24, 25, 26, 22, 16, 1, 2, 3, 4, 5, 6, 7, 9, 10, 27] [0, 1, 2, 3, 4, 5, 6, 7, 8, 9, 10, 11, 12, 13, 14, 15, 16, 17, 18, 19, 20, 21, 22, 23, 24, 25, 26, 27] (by decide)))
  exact List.map_fst_zip (by rw [hd6]; simp [frL])
theorem tjB {h₀ : HS} {w : World} {b lay : Bool} {z1 : Z1} {z2 : Z2} {z3 : Z3} {y : ZT} {zk : ZK} {j jl K place nl : Nat} {wk tk0 wk1 tk1 : Nat} {js : List Nat} {mx : Int} {kz : Bool} (O : (Bw w b h₀).Ok) {A₀ : Around} (hA : AOk A₀ 300) {R : Result → Shared → Prop} {dr : Drawn} {os : OsState}  (hsz : 186 ≤ h₀.h.objs.size) (hKd : gwK (y.wl.map (·.1)) y.wl.length 0 = K) (hwk : (intV y.wl)[K]? = some (.int (Int.ofNat wk) tk0)) (hwk1 : (intV y.wl)[K + 1]? = some (.int (Int.ofNat wk1) tk1)) (hK : K < 100) (hkl : (intV y.kl).length = y.ml) (hml : y.ml < 100) (hwl : y.wl.length < 100) (hjs : js.length < 100) (hmx : 1 + mx = Int.ofNat place) (hpre : y.pre.length = K) (hpost : y.post.length < 100)
 (hnl : nl = (y.kl ++ y.wl).length) (hnl' : (intV (y.kl ++ y.wl)).length = nl) (hnl2 : nl < 900) (hnl0 : y.ml + K < nl) (hres : bisF (fun i => decide (mxAt ((y.kl ++ y.wl).map (·.1)) i < wk + wk1)) (y.ml + K - y.ml) y.ml (y.ml + K) = y.ml + place) (hKw : K ≤ y.wl.length) (hkz : kz = decide (K = 0)) (hjd : gwJ (wk + wk1) ((y.wl.take K).map (·.1)) 0 = js) (hmx1 : mxJ js (-1) = mx)
 (hx0 : y.x0 ≠ []) (hy0 : y.y0 ≠ []) (hx1 : y.x1 ≠ []) (hy1 : y.y1 ≠ []) (lx0 : y.x0.length < 100) (ly0 : y.y0.length < 100) (lx1 : y.x1.length < 100) (ly1 : y.y1.length < 100) {preT rest : List Pc} {r0 : Led} (hr : y.r = (z2.n + 186, namesO z2) :: (preT.map Pc.led ++ (rest.map Pc.led ++ r0))) (hrest : refV (List.drop place y.pre) ++ refV y.post = refV (rest.map (·.a))) (hpK : place ≤ K) {W0 : Wd} {Lr : List Wd} (htext : y.x0 ++ y.y0 ++ y.x1 ++ y.y1 = wtx (W0 :: Lr)) (hwd : ∀ v ∈ W0 :: Lr, allWs v ∧ v.ws ≠ [] ∧ v.i < 6) (hdl6 : y.dl.length = 6) (hlen2 : 2 ≤ (y.x0 ++ y.y0 ++ y.x1 ++ y.y1).length) (hre : rest.length < 50) (hpre2 : y.pre.length < 50) {h : Heap} (S₀ : St (Bw w b h₀) h ((z1.n + 186, lawB (wf w b) lay z1 z2 z3 18 y.kt y.kv (es1 (wf w b) y ++ [en (wf w b) c_kept y.k6 (.ref (y.ke + 186)), en (wf w b) c_turn y.k7 y.v7]) (es2 (wf w b) y)) :: (y.it + 186, rangeItO j (jl + 1)) :: (z1.n + 188, cellO (.ref (y.we + 186))) :: (z1.n + 189, cellO (.ref (y.de + 186))) :: (z1.n + 190, cellO y.bv) :: (y.we + 186, listO (intV y.wl) y.wep) :: (y.ke + 186, listO (intV y.kl) y.kep) :: (y.de + 186, listO (intV y.dl) y.d0) :: (z3.n + 210, rowO (z3.n + 209) (refV y.pre ++ (.ref (y.a0 + 186) :: .ref (y.a1 + 186) :: refV y.post)) y.rep) :: (z3.n + 209, dictO 1 [en (wf w b) c_iniize (z3.t + 46) (.int 0 286)]) :: (y.a0 + 186, tupO [.str (S y.x0) y.tx0, .str (S y.y0) y.ty0]) :: (y.a1 + 186, tupO [.str (S y.x1) y.tx1, .str (S y.y1) y.ty1]) :: (y.c1 + 186, codeO y.v0 y.q y.ctq y.rs) :: (158, tabO [.int 108 0, .int 4 0, .ref (y.c1 + 186), .int 112 0, .int 13 0, .ref (y.c2 + 186)]) :: (172, tabO [.int 125 0, .int 79 0, .ref (zk.c3 + 186)]) :: (zk.c3 + 186, codeO zk.w0 zk.wq zk.wtq zk.wrs) :: y.r) (y.n + 186))
  (next : ∀ (h' : Heap) (y' : ZT) (zk' : ZK) (mp : Pc) (news : List Pc), y'.it = y.it → y'.wl.map (·.1) = mer K place (wk + wk1) (y.wl.map (·.1)) → y'.kl = y.kl ++ y.wl → y'.ml = nl → y'.dl.length = 6 → y'.dl.map (·.1) = ((W0 :: Lr).map (·.i)).foldl incD (y.dl.map (·.1)) → mp.xy = (y.x0, y.y0 ++ y.x1 ++ y.y1) → news.map Pc.xy = rest.map Pc.xy → (∃ J : Led, y'.r = J ++ r0) →
   St (Bw w b h₀) h' ((z1.n + 186, frTB (wf w b) lay z1 z2 z3 y') :: tlE (wf w b) z1 z2 z3 y' (j + 1) jl (cellO y'.bv) (tbK zk') (refV (List.take place y.pre) ++ [.ref (mp.a + 186)] ++ refV (news.map (·.a))) (preT.map Pc.led ++ (mp.led :: (news.map Pc.led ++ y'.r)))) (y'.n + 186) → cA w b A₀ (forOf (lawStmt (wf w b).params 14) (y.it + 186) (lawEnv (wf w b).params z1.n)) R (sh h' [.finished, .finished] dr y'.t os)) :
  cA w b A₀ (forOf (lawStmt (wf w b).params 14) (y.it + 186) (lawEnv (wf w b).params z1.n)) R (sh h [.finished, .finished] dr y.t os) := by
 refine tnB_t (zk := zk) O (hA.le (by lia)) hsz hKd hwk hwk1 hK hkl hml hwl hjs hmx hpre hpost hnl hnl' hnl2 hnl0 hres hKw hkz hjd hmx1 hx0 hy0 hx1 hy1 lx0 ly0 lx1 ly1 S₀ fun ps0 κ hκ hd hrl hkl h' t' S' => ?_
 rw [hr, hrest, rIt, mer_intV K place (wk + wk1) ((SX.fresh (ps0 0)) 1 + 2) y.wl hpK] at S'
 have S2 := S'.perm (perm_of [[_], [_], [_], [_], [_], [_], [_], [_], [_], [_], [_], [_], [_], lexLed (wf w b) (lxtnB w b lay z1 z2 z3 y zk j jl K place nl wk tk0 wk1 tk1 js mx kz ps0) 1 (((SX.fresh (ps0 4)) 1) + 42) 0 (((SX.fresh (ps0 4)) 1) + 35) [] 0, [_], [_], [_], [_], preT.map Pc.led, rest.map Pc.led, r0] [0, 12, 11, 8, 9, 19, 1, 2, 3, 4, 5, 6, 7, 10, 13, 14, 15, 16, 17, 18, 20] [0, 1, 2, 3, 4, 5, 6, 7, 8, 9, 10, 11, 12, 13, 14, 15, 16, 17, 18, 19, 20] (by decide))
 refine pu_run (lay := lay) (z1 := z1) (z2 := z2) (z3 := z3) (f := ⟨18, y.kt, y.k1, y.k2, y.k3, y.k4, y.k5, y.k6, y.k7, (.int (Int.ofNat K) ((SX.fresh (ps0 0)) 2)), ((y.v3)), ((y.v4)), (.ref ((SX.fresh (ps0 0)) 0 + 186)), (.int (Int.ofNat j) y.t), [en (wf w b) [108, 111, 119] y.k8 (.int (Int.ofNat y.ml) ((SX.fresh (ps0 0)) 1 + 4)), en (wf w b) c_place y.k9 (.int (Int.ofNat place) ((SX.fresh (ps0 2)) 1)), en (wf w b) [111, 102, 102] y.k10 (.ref ((SX.fresh (ps0 4)) 0 + 198)), en (wf w b) c_moved y.k11 (.ref ((SX.fresh (ps0 4)) 0 + 203)), en (wf w b) c_reader y.k12 (.ref ((SX.fresh (ps0 4)) 0 + 217))]⟩) (it := ((SX.fresh (ps0 4)) 0) + 37) (l := ((SX.fresh (ps0 4)) 0) + 36) (lep := 0) (v5 := y.v5) (ls := refV (rest.map (·.a))) (gl := [.finished, .finished]) O (AOk.over (d := 140) (hA.le (by lia)) hd) rest 0 (((SX.fresh (ps0 4)) 0) + 38) t' _ y.v1 y.v2 (refV (List.take place y.pre) ++ [Value.ref (((SX.fresh (ps0 4)) 0) + 21 + 186)]) _ h' rfl (by simp [refV]; lia) S2 fun h2 n2 t2 v1' v2' news rep' hxy S3 => ?_
 have S4 := S3.perm (perm_of [[_], [_], [_], news.map Pc.led, [_], [_], [_], [_], [_], [_], [_], [_], lexLed (wf w b) (lxtnB w b lay z1 z2 z3 y zk j jl K place nl wk tk0 wk1 tk1 js mx kz ps0) 1 (((SX.fresh (ps0 4)) 1) + 42) 0 (((SX.fresh (ps0 4)) 1) + 35) [] 0, [_], [_], [_], [_], preT.map Pc.led, r0] [0, 12, 16, 6, 10, 1, 2, 3, 4, 5, 7, 8, 9, 11, 13, 14, 15, 17, 18] [0, 1, 2, 3, 4, 5, 6, 7, 8, 9, 10, 11, 12, 13, 14, 15, 16, 17, 18] (by decide))
 have htx : (lxtnB w b lay z1 z2 z3 y zk j jl K place nl wk tk0 wk1 tk1 js mx kz ps0).text.cps.toList = wtx (W0 :: Lr) := htext
 obtain ⟨hd2, hp2⟩ := read_one (text := (lxtnB w b lay z1 z2 z3 y zk j jl K place nl wk tk0 wk1 tk1 js mx kz ps0).text.cps.toList) (p := 0) (w := W0) (r := Lr) (fun v hv => ⟨(hwd v (.tail _ hv)).1, (hwd v (.tail _ hv)).2.1⟩) htx (Nat.zero_le _)
 have hX : 2 ≤ (lxtnB w b lay z1 z2 z3 y zk j jl K place nl wk tk0 wk1 tk1 js mx kz ps0).text.length := hlen2
 refine tnBe_t (pz := ps0) (u := ⟨n2, t2, v1', v2', (z3.n + 210, rowO (z3.n + 209) (refV (List.take place y.pre) ++ [Value.ref (((SX.fresh (ps0 4)) 0) + 21 + 186)] ++ refV (news.map (·.a))) rep') :: (z3.n + 209, rowDO (wf w b) z3) :: news.map Pc.led ++ ((y.it + 186, rangeItO (j + 1) jl) :: (z1.n + 188, cellO (.ref ((SX.fresh (ps0 4)) 0 + 195))) :: (z1.n + 190, cellO (.int (Int.ofNat (wk + wk1)) ((SX.fresh (ps0 0)) 1 + 2))) :: ((SX.fresh (ps0 4)) 0 + 195, listO (intV (mer K place (wk + wk1, (SX.fresh (ps0 0)) 1 + 2) y.wl)) 0) :: ((SX.fresh (ps0 0)) 0 + 186, listO ((intV (y.kl ++ y.wl))) 0) :: ((SX.fresh (ps0 4)) 0 + 207, tupO [.str (S y.x0) y.tx0, .str (S (y.y0 ++ y.x1 ++ y.y1)) ((SX.fresh (ps0 4)) 1 + 20)]) :: (158, tabO [.int 108 0, .int 4 0, .ref (y.c1 + 186), .int 112 0, .int 13 0, .ref (y.c2 + 186)]) :: (172, tabO [.int 125 0, .int 79 0, .ref (zk.c3 + 186)]) :: (zk.c3 + 186, codeO zk.w0 zk.wq zk.wtq zk.wrs) :: preT.map Pc.led ++ (r0))⟩) (a1 := nA W0.i) (a2 := nB W0.i) (ln2 := (1 + cnt10 W0.ws + cnt10 (readT W0.qd (nA W0.i + 1) (nB W0.i + 1) (wtx Lr)))) (p2 := (0 + W0.ws.length + (readT W0.qd (nA W0.i + 1) (nB W0.i + 1) (wtx Lr)).length)) (ln3 := ((1 + cnt10 W0.ws + cnt10 (readT W0.qd (nA W0.i + 1) (nB W0.i + 1) (wtx Lr))) + cnt10 (wtx (cutW W0.qd Lr)))) (p3 := (lxtnB w b lay z1 z2 z3 y zk j jl K place nl wk tk0 wk1 tk1 js mx kz ps0).text.length) (dl2 := (((W0 :: Lr).map (·.i)).foldl incD (y.dl.map (·.1)))) O (hA.le (by lia)) hκ (ml := 0) hrl hd
  (fun idx hidx => gap_gt O hsz (hA.le (by lia)) hidx hX isLet_nB (fun _ => wtx_head fun v hv => ⟨(hwd v (.tail _ hv)).1, (hwd v (.tail _ hv)).2.1⟩) (hwd W0 (.head _)).1 htx rfl rfl)
  (fun t0 t1 t2 idx hidx => gap_rd (f := ⟨18, y.kt, y.k1, y.k2, y.k3, y.k4, y.k5, y.k6, y.k7, (.int (Int.ofNat K) ((SX.fresh (ps0 0)) 2)), ((y.v3)), ((y.v4)), (.ref ((SX.fresh (ps0 0)) 0 + 186)), (.int (Int.ofNat j) y.t), [en (wf w b) [108, 111, 119] y.k8 (.int (Int.ofNat y.ml) ((SX.fresh (ps0 0)) 1 + 4)), en (wf w b) c_place y.k9 (.int (Int.ofNat place) ((SX.fresh (ps0 2)) 1)), en (wf w b) [111, 102, 102] y.k10 (.ref ((SX.fresh (ps0 4)) 0 + 198)), en (wf w b) c_moved y.k11 (.ref ((SX.fresh (ps0 4)) 0 + 203)), en (wf w b) c_reader y.k12 (.ref ((SX.fresh (ps0 4)) 0 + 217))]⟩) (g := ⟨y.k8, y.k9, y.k10, y.k11, y.k12, (.int (Int.ofNat y.ml) ((SX.fresh (ps0 0)) 1 + 4)), (.int (Int.ofNat place) ((SX.fresh (ps0 2)) 1)), (.ref ((SX.fresh (ps0 4)) 0 + 198)), (.ref ((SX.fresh (ps0 4)) 0 + 203))⟩) O (hA.le (by lia)) hsz hidx hX (hwd W0 (.head _)).2.2 hdl6 (fun v hv => ?_) (cutW_ok fun v hv => (hwd v (.tail _ hv)).1) (by rw [cutW_tl]; exact fun v hv => (hwd v (.tail _ (List.mem_of_mem_tail hv))).2.1) hd2 hp2 (by rw [cutW_i]; rfl) rfl rfl)
  S4 fun ps1 h3 t3 S5 => ?_
 ·have : v.i ∈ (cutW W0.qd Lr).map (·.i) := List.mem_map_of_mem hv
  rw [cutW_i] at this
  obtain ⟨v', hv', e⟩ := List.mem_map.mp this
  rw [← e]
  exact (hwd v' (.tail _ hv')).2.2
 ·have hd6 : (((W0 :: Lr).map (·.i)).foldl incD (y.dl.map (·.1))).length = 6 := by rw [incD_len, List.length_map, hdl6]
  refine next h3 { y with n := ((SX.fresh (ps1 1)) 0), t := t3, ke := ((SX.fresh (ps0 0)) 0), ml := nl, kt := y.kt, k1 := y.k1, k2 := y.k2, k3 := y.k3, k4 := y.k4, k5 := y.k5, k6 := y.k6, k7 := y.k7, k8 := y.k8, k9 := y.k9, k10 := y.k10, k11 := y.k11, k12 := y.k12, we := ((SX.fresh (ps0 4)) 0) + 9, wep := 0, wl := mer K place (wk + wk1, (SX.fresh (ps0 0)) 1 + 2) y.wl, kl := y.kl ++ y.wl, kep := 0, dl := (((W0 :: Lr).map (·.i)).foldl incD (y.dl.map (·.1))).zip (frL (SX.fresh (ps1 1)) 6), rep := rep', kv := (.int (Int.ofNat K) ((SX.fresh (ps0 0)) 2)), v1 := v1', v2 := v2', v5 := .str (S []) ((SX.fresh (ps1 1)) 2), v7 := (.int (Int.ofNat j) y.t), v8 := (.int (Int.ofNat y.ml) ((SX.fresh (ps0 0)) 1 + 4)), v9 := (.int (Int.ofNat place) ((SX.fresh (ps0 2)) 1)), v10 := (.ref ((SX.fresh (ps0 4)) 0 + 198)), v11 := (.ref ((SX.fresh (ps0 4)) 0 + 203)), v12 := (.ref ((SX.fresh (ps0 4)) 0 + 217)), bv := .int (Int.ofNat (wk + wk1)) ((SX.fresh (ps0 0)) 1 + 2), r := lexJ (wf w b) (lxtnB w b lay z1 z2 z3 y zk j jl K place nl wk tk0 wk1 tk1 js mx kz ps0) ((1 + cnt10 W0.ws + cnt10 (readT W0.qd (nA W0.i + 1) (nB W0.i + 1) (wtx Lr))) + cnt10 (wtx (cutW W0.qd Lr))) ((SX.fresh (ps1 1)) 3) (lxtnB w b lay z1 z2 z3 y zk j jl K place nl wk tk0 wk1 tk1 js mx kz ps0).text.length ((SX.fresh (ps1 1)) 4) ++ r0 } ⟨zk.c3, zk.wtq, zk.w0, zk.wq, zk.wrs⟩ ⟨((SX.fresh (ps0 4)) 0) + 21, y.tx0, ((SX.fresh (ps0 4)) 1 + 20), y.x0, y.y0 ++ y.x1 ++ y.y1⟩ news rfl (by exact mer_map _ _ _ _ _) rfl rfl (by rw [List.length_zip, hd6]; simp [frL]) ?_ rfl hxy ⟨_, rfl⟩ (S5.perm (perm_of [[_], [_], [_], [_], [_], [_], [_], [_], [_], [_], [_], [_], [_], [_], [_], [_], news.map Pc.led, [_], [_], [_], [_], [_], [_], [_], [_], [_], preT.map Pc.led, r0] [0, 17, 18, 13, 19, 20, 21, 11, 14, 15, 8, 23, 12, 24, 25, 26, 22, 16, 1, 2, 3, 4, 5, 6, 7, 9, 10, 27] [0, 1, 2, 3, 4, 5, 6, 7, 8, 9, 10, 11, 12, 13, 14, 15, 16, 17, 18, 19, 20, 21, 22, 23, 24, 25, 26, 27] (by decide)))
  exact List.map_fst_zip (by rw [hd6]; simp [frL])
section
variable {h₀ : HS} {w : World} {b : Bool} (O : (Bw w b h₀).Ok) {A₀ : Around} (hA : AOk A₀ 140) {R : Result → Shared → Prop} {dr : Drawn} {os : OsState} {h : Heap}
include O hA
theorem tnZ_t {z1 : Z1} {it n t j : Nat} {r : Led} {gl : List GenState} (S₀ : St (Bw w b h₀) h ((it + 186, rangeItO j 0) :: r) (n + 186))
  (next : ∀ h' t', St (Bw w b h₀) h' (r) ((n + 188)) → R (.ok PySem.Flow.next) (sh h' gl dr t' os)) :
  cA w b A₀ (forOf (lawStmt (wf w b).params 14) (it + 186) (lawEnv (wf w b).params z1.n)) R (sh h gl dr t os) := by
 exact code_run (f := 21) (ls := [1, 1, 1, 1, 1, 1]) (qs := []) O hA  aN (fine_done (is := []) (d := 3) (Vw.Is.eq (by refine Bool.rec ?_ ?_ b <;> and_intros <;> kernel_rfl)) rfl (next)) S₀
end
theorem mer_split {α : Type} {K p : Nat} {f a b : α} {pre post : List α} (h : pre.length = K) (hp : p ≤ K) : mer K p f (pre ++ a :: b :: post) = pre.take p ++ [f] ++ pre.drop p ++ post := by
 subst h
 unfold mer
 rw [List.take_append_of_le_length hp, List.take_left]
 have : (pre ++ a :: b :: post).drop (pre.length + 2) = post := by
  rw [← List.drop_drop, List.drop_left]
  rfl
 rw [this]
theorem pc_zip : ∀ (R : List (Pc × List Wd)) (news : List Pc), news.map Pc.xy = (R.map (·.1)).map Pc.xy → (∀ q ∈ R, PcOk q.1 q.2) → (news.zip (R.map (·.2))).map (·.1) = news ∧ (news.zip (R.map (·.2))).map (·.2) = R.map (·.2) ∧ ∀ q ∈ news.zip (R.map (·.2)), PcOk q.1 q.2
 | [], [], h, hR => ⟨rfl, rfl, fun q hq => nomatch hq⟩
 | [], n :: news, h, hR => by simp at h
 | r :: R, [], h, hR => by simp at h
 | r :: R, n :: news, h, hR => by
  simp only [List.map_cons] at h
  injection h with h1 h2
  obtain ⟨e1, e2, e3⟩ := pc_zip R news h2 fun q hq => hR q (.tail _ hq)
  refine ⟨by simp only [List.map_cons, List.zip_cons_cons, e1], by simp only [List.map_cons, List.zip_cons_cons, e2], fun q hq => ?_⟩
  simp only [List.map_cons, List.zip_cons_cons] at hq
  rcases List.mem_cons.mp hq with rfl | hq
  ·have hr := hR r (.head _)
   have hx : n.x = r.1.x := congrArg Prod.fst h1
   have hy : n.y = r.1.y := congrArg Prod.snd h1
   exact ⟨by rw [hx]; exact hr.hx, by rw [hy]; exact hr.hy, by rw [hx, hy]; exact hr.text, by rw [hx, hy]; exact hr.len, hr.wds⟩
  ·exact e3 q hq
section
variable {h₀ : HS} {w : World} {b lay : Bool} {z1 : Z1} {z2 : Z2} {z3 : Z3} (O : (Bw w b h₀).Ok) {A₀ : Around} (hA : AOk A₀ 300) (hsz : 186 ≤ h₀.h.objs.size) {R : Result → Shared → Prop} {dr : Drawn} {os : OsState}
include O hA hsz
theorem tkA (y : ZT) (zk : ZK) (j jl : Nat) (qs : List (Pc × List Wd)) (K p wk wk1 : Nat) (hT : TurnOk (y.wl.map (·.1)) K p wk wk1) (hlen : qs.length = y.wl.length) (hqs : ∀ q ∈ qs, PcOk q.1 q.2) (hsum : (qs.map fun q => q.2.length).sum = 6) (hw6 : y.wl.length ≤ 6) (hml : y.ml = y.kl.length) (hkl : y.kl.length ≤ 90) (hdl : y.dl.length = 6) {h : Heap}
  (S₀ : St (Bw w b h₀) h ((z1.n + 186, frTA (wf w b) lay z1 z2 z3 y) :: tlC (wf w b) z1 z2 z3 y j (jl + 1) cell0 tb0 (qs.map (·.1))) (y.n + 186))
  (next : ∀ (h' : Heap) (y' : ZT) (zk' : ZK) (qs' : List (Pc × List Wd)) (q0 q1 : List Wd), (qs.map (·.2))[K]? = some q0 → (qs.map (·.2))[K + 1]? = some q1 → y'.it = y.it → y'.wl.map (·.1) = mer K p (wk + wk1) (y.wl.map (·.1)) → y'.kl = y.kl ++ y.wl → y'.ml = y'.kl.length → y'.dl.length = 6 → y'.dl.map (·.1) = ((q0 ++ q1).map (·.i)).foldl incD (y.dl.map (·.1)) → (∀ q ∈ qs', PcOk q.1 q.2) → qs'.map (·.2) = mer K p (q0 ++ q1) (qs.map (·.2)) → (∃ J : Led, y'.r = J ++ (y.we + 186, listO (intV y.wl) y.wep) :: y.r) →
   St (Bw w b h₀) h' ((z1.n + 186, frTB (wf w b) lay z1 z2 z3 y') :: tlC (wf w b) z1 z2 z3 y' (j + 1) jl (cellO y'.bv) (tbK zk') (qs'.map (·.1))) (y'.n + 186) → cA w b A₀ (forOf (lawStmt (wf w b).params 14) (y.it + 186) (lawEnv (wf w b).params z1.n)) R (sh h' [.finished, .finished] dr y'.t os)) :
  cA w b A₀ (forOf (lawStmt (wf w b).params 14) (y.it + 186) (lawEnv (wf w b).params z1.n)) R (sh h [.finished, .finished] dr y.t os) := by
 obtain ⟨hKd, hk0, hk1, hpK, hm, hb⟩ := hT
 obtain ⟨tk0, hwk⟩ := get_map hk0
 obtain ⟨tk1, hwk1⟩ := get_map hk1
 have hK1 : K + 1 < y.wl.length := (List.getElem?_eq_some_iff.mp hwk1).1
 obtain ⟨pre, q0, q1, post, rfl, hpre⟩ := split_at2 qs K (by lia)
 have hq0 := hqs q0 (by simp)
 have hq1 := hqs q1 (by simp)
 have hR : ∀ q ∈ pre.drop p ++ post, PcOk q.1 q.2 := fun q hq => hqs q (by
  rcases List.mem_append.mp hq with h | h
  ·exact List.mem_append.mpr (.inl (List.mem_of_mem_drop h))
  ·simp [h])
 have hls : q0.2.length + q1.2.length ≤ 6 := by
  have : (pre.map fun q => q.2.length).sum + (q0.2.length + (q1.2.length + (post.map fun q => q.2.length).sum)) = 6 := by simpa using hsum
  lia
 have l0 := hq0.len
 have l1 := hq1.len
 have hcl : pre.length + (post.length + 2) = y.wl.length := by rw [← hlen]; simp
 have htext : q0.1.x ++ q0.1.y ++ q1.1.x ++ q1.1.y = wtx (q0.2 ++ q1.2) := by rw [wtx_app, ← hq0.text, ← hq1.text]; simp
 have hx0 := List.length_pos_iff.mpr hq0.hx
 have hy0 := List.length_pos_iff.mpr hq0.hy
 have hwd : ∀ v ∈ q0.2 ++ q1.2, allWs v ∧ v.ws ≠ [] ∧ v.i < 6 := fun v hv => by
  rcases List.mem_append.mp hv with h | h
  ·exact hq0.wds v h
  ·exact hq1.wds v h
 obtain ⟨W0, Lr, hWL⟩ : ∃ W0 Lr, q0.2 ++ q1.2 = W0 :: Lr := by
  cases h : q0.2 with
  | nil => rw [h, List.length_nil] at l0; lia
  | cons a l => exact ⟨a, l ++ q1.2, rfl⟩
 have h2 : 2 ≤ (q0.1.x ++ q0.1.y ++ q1.1.x ++ q1.1.y).length := by simp; lia
 rw [hWL] at htext hwd
 have next2 : ∀ (h' : Heap) (y' : ZT) (zk' : ZK) (mp : Pc) (news : List Pc), y'.it = y.it → y'.wl.map (·.1) = mer K p (wk + wk1) (y.wl.map (·.1)) → y'.kl = y.kl ++ y.wl → y'.ml = (y.kl ++ y.wl).length → y'.dl.length = 6 → y'.dl.map (·.1) = ((W0 :: Lr).map (·.i)).foldl incD (y.dl.map (·.1)) → mp.xy = (q0.1.x, q0.1.y ++ q1.1.x ++ q1.1.y) → news.map Pc.xy = ((pre.drop p ++ post).map (·.1)).map Pc.xy → (∃ J : Led, y'.r = J ++ (y.we + 186, listO (intV y.wl) y.wep) :: y.r) →
   St (Bw w b h₀) h' ((z1.n + 186, frTB (wf w b) lay z1 z2 z3 y') :: tlE (wf w b) z1 z2 z3 y' (j + 1) jl (cellO y'.bv) (tbK zk') (refV (List.take p (pre.map (·.1.a))) ++ [.ref (mp.a + 186)] ++ refV (news.map (·.a))) (((pre.take p).map (·.1)).map Pc.led ++ (mp.led :: (news.map Pc.led ++ y'.r)))) (y'.n + 186) → cA w b A₀ (forOf (lawStmt (wf w b).params 14) (y.it + 186) (lawEnv (wf w b).params z1.n)) R (sh h' [.finished, .finished] dr y'.t os) := by
  intro h' y' zk' mp news e1 e2 e3 e4 e5 e6 e7 e8 e9 S'
  obtain ⟨f1, f2, f3⟩ := pc_zip _ _ e8 hR
  refine next h' y' zk' (pre.take p ++ (mp, q0.2 ++ q1.2) :: news.zip ((pre.drop p ++ post).map (·.2))) q0.2 q1.2 (by simp [← hpre]) (by simp [← hpre]) e1 e2 e3 (by rw [e4, e3]) e5 (by rw [hWL]; exact e6) (fun q hq => ?_) ?_ e9 ?_
  ·rcases List.mem_append.mp hq with h | h
   ·exact hqs q (List.mem_append.mpr (.inl (List.mem_of_mem_take h)))
   ·rcases List.mem_cons.mp h with rfl | h
    ·have hx : mp.x = q0.1.x := congrArg Prod.fst e7
     have hy : mp.y = q0.1.y ++ q1.1.x ++ q1.1.y := congrArg Prod.snd e7
     have hlw : (q0.2 ++ q1.2).length = q0.2.length + q1.2.length := List.length_append
     refine ⟨by show mp.x ≠ []; rw [hx]; exact hq0.hx, ?_, ?_, ?_, by show ∀ w ∈ q0.2 ++ q1.2, _; rw [hWL]; exact hwd⟩
     ·show mp.y ≠ []
      rw [hy]
      intro e
      have := congrArg List.length e
      rw [List.length_append, List.length_append, List.length_nil] at this
      lia
     ·show mp.x ++ mp.y = wtx (q0.2 ++ q1.2)
      rw [hx, hy, hWL, ← htext]
      simp
     ·show mp.x.length + mp.y.length ≤ 15 * (q0.2 ++ q1.2).length
      rw [hx, hy, hlw]
      simp
      lia
    ·exact f3 q h
  ·rw [List.map_append, List.map_cons, f2]
   have : (pre ++ q0 :: q1 :: post).map (·.2) = pre.map (·.2) ++ q0.2 :: q1.2 :: post.map (·.2) := by simp
   rw [this, mer_split (by simp [hpre]) hpK]
   simp [List.map_take, List.map_drop]
  ·have g1 : refV (List.take p (pre.map (·.1.a))) ++ [.ref (mp.a + 186)] ++ refV (news.map (·.a)) = refV (((pre.take p ++ (mp, q0.2 ++ q1.2) :: news.zip ((pre.drop p ++ post).map (·.2))).map (·.1)).map (·.a)) := by
    rw [List.map_append, List.map_cons, f1]
    simp [refV, List.map_take, Function.comp_def]
   have g2 : ((pre.take p).map (·.1)).map Pc.led ++ (mp.led :: (news.map Pc.led ++ y'.r)) = ((pre.take p ++ (mp, q0.2 ++ q1.2) :: news.zip ((pre.drop p ++ post).map (·.2))).map (·.1)).map Pc.led ++ y'.r := by
    rw [List.map_append, List.map_cons, f1]
    simp
   rw [g1, g2] at S'
   exact S'
 have e1 : refV (((pre ++ q0 :: q1 :: post).map (·.1)).map (·.a)) = refV (pre.map (·.1.a)) ++ (.ref (q0.1.a + 186) :: .ref (q1.1.a + 186) :: refV (post.map (·.1.a))) := by simp [refV, Function.comp_def]
 have e2 : ((pre ++ q0 :: q1 :: post).map (·.1)).map Pc.led = ((pre.take p).map (·.1)).map Pc.led ++ (((pre.drop p).map (·.1)).map Pc.led ++ (q0.1.led :: q1.1.led :: (post.map (·.1)).map Pc.led)) := by
  rw [← List.append_assoc, ← List.map_append, ← List.map_append, List.take_append_drop]
  simp
 have e3 : ((pre.drop p ++ post).map (·.1)).map Pc.led = ((pre.drop p).map (·.1)).map Pc.led ++ (post.map (·.1)).map Pc.led := by simp
 unfold tlC tlE at S₀
 rw [e1, e2, List.append_assoc, List.append_assoc] at S₀
 have S1 := S₀.perm (perm_of [[_], [_], [_], [_], [_], [_], [_], [_], [_], [_], [_], [_], [_], tb0, ((pre.take p).map (·.1)).map Pc.led, ((pre.drop p).map (·.1)).map Pc.led, [q0.1.led], [q1.1.led], (post.map (·.1)).map Pc.led, y.r] [0, 1, 2, 3, 4, 5, 6, 7, 8, 9, 16, 17, 10, 11, 13, 12, 14, 15, 18, 19] [0, 1, 2, 3, 4, 5, 6, 7, 8, 9, 10, 11, 12, 13, 14, 15, 16, 17, 18, 19] (by decide))
 have hiv : ∀ {i a t : Nat}, y.wl[i]? = some (a, t) → (intV y.wl)[i]? = some (.int (Int.ofNat a) t) := fun h => intV_get h
 have hjl : (gwJ (wk + wk1) ((y.wl.map (·.1)).take K) 0).length < 100 := by
  have h1 := gwJ_len (wk + wk1) ((y.wl.map (·.1)).take K) 0
  have h2 : ((y.wl.map (·.1)).take K).length ≤ K := by simp; lia
  lia
 have e4 : (y.wl.take K).map (·.1) = (y.wl.map (·.1)).take K := by simp [List.map_take]
 have hres : bisF (fun i => decide (mxAt ((y.kl ++ y.wl).map (·.1)) i < wk + wk1)) (y.ml + K - y.ml) y.ml (y.ml + K) = y.ml + p := by
  have := hb (y.kl.map (·.1))
  rw [List.length_map, ← hml] at this
  rw [List.map_append]
  exact this
 refine tjA (kz := decide (K = 0)) (y := { y with a0 := q0.1.a, a1 := q1.1.a, tx0 := q0.1.tx, ty0 := q0.1.ty, tx1 := q1.1.tx, ty1 := q1.1.ty, x0 := q0.1.x, y0 := q0.1.y, x1 := q1.1.x, y1 := q1.1.y, pre := pre.map (·.1.a), post := post.map (·.1.a), r := (z2.n + 186, namesO z2) :: (((pre.take p).map (·.1)).map Pc.led ++ (((pre.drop p ++ post).map (·.1)).map Pc.led ++ y.r)) }) (zk := zk) (j := j) (jl := jl) (K := K) (place := p) (nl := (y.kl ++ y.wl).length) (wk := wk) (tk0 := tk0) (wk1 := wk1) (tk1 := tk1) (js := gwJ (wk + wk1) ((y.wl.map (·.1)).take K) 0) (mx := mxJ (gwJ (wk + wk1) ((y.wl.map (·.1)).take K) 0) (-1)) (preT := (pre.take p).map (·.1)) (rest := (pre.drop p ++ post).map (·.1)) (r0 := y.r) (W0 := W0) (Lr := Lr) O hA hsz (by rw [← hKd]; simp) (hiv hwk) (hiv hwk1) (by lia) (by show (intV y.kl).length = y.ml; rw [len_intV, hml]) (by show y.ml < 100; lia) (by show y.wl.length < 100; lia) hjl hm (by simp [hpre]) (by simp; lia) rfl (by show (intV (y.kl ++ y.wl)).length = _; rw [len_intV]) (by simp; lia) (by show y.ml + K < _; simp; lia) hres (by show K ≤ y.wl.length; lia) rfl (by show gwJ _ ((y.wl.take K).map (·.1)) 0 = _; rw [e4]) rfl hq0.hx hq0.hy hq1.hx hq1.hy (by show q0.1.x.length < 100; lia) (by show q0.1.y.length < 100; lia) (by show q1.1.x.length < 100; lia) (by show q1.1.y.length < 100; lia) rfl (by simp [refV, List.map_drop, Function.comp_def]) hpK htext hwd hdl h2 (by simp; lia) (by simp; lia) (S1.perm (List.Perm.of_eq ?_)) next2
 exact congrArg (fun X : Led => (z1.n + 186, frTA (wf w b) lay z1 z2 z3 y) :: (y.it + 186, rangeItO j (jl + 1)) :: (z1.n + 188, cellO (.ref (y.we + 186))) :: (z1.n + 189, cellO (.ref (y.de + 186))) :: (z1.n + 190, cell0) :: (y.we + 186, listO (intV y.wl) y.wep) :: (y.ke + 186, listO (intV y.kl) y.kep) :: (y.de + 186, listO (intV y.dl) y.d0) :: (z3.n + 210, rowO (z3.n + 209) (refV (pre.map (·.1.a)) ++ (.ref (q0.1.a + 186) :: .ref (q1.1.a + 186) :: refV (post.map (·.1.a)))) y.rep) :: (z3.n + 209, rowDO (wf w b) z3) :: q0.1.led :: q1.1.led :: (y.c1 + 186, codeO y.v0 y.q y.ctq y.rs) :: (158, tabO [.int 108 0, .int 4 0, .ref (y.c1 + 186), .int 112 0, .int 13 0, .ref (y.c2 + 186)]) :: (tb0 ++ ((z2.n + 186, namesO z2) :: (((pre.take p).map (·.1)).map Pc.led ++ X)))) (show ((pre.drop p ++ post).map (·.1)).map Pc.led ++ y.r = ((pre.drop p).map (·.1)).map Pc.led ++ ((post.map (·.1)).map Pc.led ++ y.r) by rw [e3, List.append_assoc])
theorem tkB (y : ZT) (zk : ZK) (j jl : Nat) (qs : List (Pc × List Wd)) (K p wk wk1 : Nat) (hT : TurnOk (y.wl.map (·.1)) K p wk wk1) (hlen : qs.length = y.wl.length) (hqs : ∀ q ∈ qs, PcOk q.1 q.2) (hsum : (qs.map fun q => q.2.length).sum = 6) (hw6 : y.wl.length ≤ 6) (hml : y.ml = y.kl.length) (hkl : y.kl.length ≤ 90) (hdl : y.dl.length = 6) {h : Heap}
  (S₀ : St (Bw w b h₀) h ((z1.n + 186, frTB (wf w b) lay z1 z2 z3 y) :: tlC (wf w b) z1 z2 z3 y j (jl + 1) (cellO y.bv) (tbK zk) (qs.map (·.1))) (y.n + 186))
  (next : ∀ (h' : Heap) (y' : ZT) (zk' : ZK) (qs' : List (Pc × List Wd)) (q0 q1 : List Wd), (qs.map (·.2))[K]? = some q0 → (qs.map (·.2))[K + 1]? = some q1 → y'.it = y.it → y'.wl.map (·.1) = mer K p (wk + wk1) (y.wl.map (·.1)) → y'.kl = y.kl ++ y.wl → y'.ml = y'.kl.length → y'.dl.length = 6 → y'.dl.map (·.1) = ((q0 ++ q1).map (·.i)).foldl incD (y.dl.map (·.1)) → (∀ q ∈ qs', PcOk q.1 q.2) → qs'.map (·.2) = mer K p (q0 ++ q1) (qs.map (·.2)) → (∃ J : Led, y'.r = J ++ y.r) →
   St (Bw w b h₀) h' ((z1.n + 186, frTB (wf w b) lay z1 z2 z3 y') :: tlC (wf w b) z1 z2 z3 y' (j + 1) jl (cellO y'.bv) (tbK zk') (qs'.map (·.1))) (y'.n + 186) → cA w b A₀ (forOf (lawStmt (wf w b).params 14) (y.it + 186) (lawEnv (wf w b).params z1.n)) R (sh h' [.finished, .finished] dr y'.t os)) :
  cA w b A₀ (forOf (lawStmt (wf w b).params 14) (y.it + 186) (lawEnv (wf w b).params z1.n)) R (sh h [.finished, .finished] dr y.t os) := by
 obtain ⟨hKd, hk0, hk1, hpK, hm, hb⟩ := hT
 obtain ⟨tk0, hwk⟩ := get_map hk0
 obtain ⟨tk1, hwk1⟩ := get_map hk1
 have hK1 : K + 1 < y.wl.length := (List.getElem?_eq_some_iff.mp hwk1).1
 obtain ⟨pre, q0, q1, post, rfl, hpre⟩ := split_at2 qs K (by lia)
 have hq0 := hqs q0 (by simp)
 have hq1 := hqs q1 (by simp)
 have hR : ∀ q ∈ pre.drop p ++ post, PcOk q.1 q.2 := fun q hq => hqs q (by
  rcases List.mem_append.mp hq with h | h
  ·exact List.mem_append.mpr (.inl (List.mem_of_mem_drop h))
  ·simp [h])
 have hls : q0.2.length + q1.2.length ≤ 6 := by
  have : (pre.map fun q => q.2.length).sum + (q0.2.length + (q1.2.length + (post.map fun q => q.2.length).sum)) = 6 := by simpa using hsum
  lia
 have l0 := hq0.len
 have l1 := hq1.len
 have hcl : pre.length + (post.length + 2) = y.wl.length := by rw [← hlen]; simp
 have htext : q0.1.x ++ q0.1.y ++ q1.1.x ++ q1.1.y = wtx (q0.2 ++ q1.2) := by rw [wtx_app, ← hq0.text, ← hq1.text]; simp
 have hx0 := List.length_pos_iff.mpr hq0.hx
 have hy0 := List.length_pos_iff.mpr hq0.hy
 have hwd : ∀ v ∈ q0.2 ++ q1.2, allWs v ∧ v.ws ≠ [] ∧ v.i < 6 := fun v hv => by
  rcases List.mem_append.mp hv with h | h
  ·exact hq0.wds v h
  ·exact hq1.wds v h
 obtain ⟨W0, Lr, hWL⟩ : ∃ W0 Lr, q0.2 ++ q1.2 = W0 :: Lr := by
  cases h : q0.2 with
  | nil => rw [h, List.length_nil] at l0; lia
  | cons a l => exact ⟨a, l ++ q1.2, rfl⟩
 have h2 : 2 ≤ (q0.1.x ++ q0.1.y ++ q1.1.x ++ q1.1.y).length := by simp; lia
 rw [hWL] at htext hwd
 have next2 : ∀ (h' : Heap) (y' : ZT) (zk' : ZK) (mp : Pc) (news : List Pc), y'.it = y.it → y'.wl.map (·.1) = mer K p (wk + wk1) (y.wl.map (·.1)) → y'.kl = y.kl ++ y.wl → y'.ml = (y.kl ++ y.wl).length → y'.dl.length = 6 → y'.dl.map (·.1) = ((W0 :: Lr).map (·.i)).foldl incD (y.dl.map (·.1)) → mp.xy = (q0.1.x, q0.1.y ++ q1.1.x ++ q1.1.y) → news.map Pc.xy = ((pre.drop p ++ post).map (·.1)).map Pc.xy → (∃ J : Led, y'.r = J ++ y.r) →
   St (Bw w b h₀) h' ((z1.n + 186, frTB (wf w b) lay z1 z2 z3 y') :: tlE (wf w b) z1 z2 z3 y' (j + 1) jl (cellO y'.bv) (tbK zk') (refV (List.take p (pre.map (·.1.a))) ++ [.ref (mp.a + 186)] ++ refV (news.map (·.a))) (((pre.take p).map (·.1)).map Pc.led ++ (mp.led :: (news.map Pc.led ++ y'.r)))) (y'.n + 186) → cA w b A₀ (forOf (lawStmt (wf w b).params 14) (y.it + 186) (lawEnv (wf w b).params z1.n)) R (sh h' [.finished, .finished] dr y'.t os) := by
  intro h' y' zk' mp news e1 e2 e3 e4 e5 e6 e7 e8 e9 S'
  obtain ⟨f1, f2, f3⟩ := pc_zip _ _ e8 hR
  refine next h' y' zk' (pre.take p ++ (mp, q0.2 ++ q1.2) :: news.zip ((pre.drop p ++ post).map (·.2))) q0.2 q1.2 (by simp [← hpre]) (by simp [← hpre]) e1 e2 e3 (by rw [e4, e3]) e5 (by rw [hWL]; exact e6) (fun q hq => ?_) ?_ e9 ?_
  ·rcases List.mem_append.mp hq with h | h
   ·exact hqs q (List.mem_append.mpr (.inl (List.mem_of_mem_take h)))
   ·rcases List.mem_cons.mp h with rfl | h
    ·have hx : mp.x = q0.1.x := congrArg Prod.fst e7
     have hy : mp.y = q0.1.y ++ q1.1.x ++ q1.1.y := congrArg Prod.snd e7
     have hlw : (q0.2 ++ q1.2).length = q0.2.length + q1.2.length := List.length_append
     refine ⟨by show mp.x ≠ []; rw [hx]; exact hq0.hx, ?_, ?_, ?_, by show ∀ w ∈ q0.2 ++ q1.2, _; rw [hWL]; exact hwd⟩
     ·show mp.y ≠ []
      rw [hy]
      intro e
      have := congrArg List.length e
      rw [List.length_append, List.length_append, List.length_nil] at this
      lia
     ·show mp.x ++ mp.y = wtx (q0.2 ++ q1.2)
      rw [hx, hy, hWL, ← htext]
      simp
     ·show mp.x.length + mp.y.length ≤ 15 * (q0.2 ++ q1.2).length
      rw [hx, hy, hlw]
      simp
      lia
    ·exact f3 q h
  ·rw [List.map_append, List.map_cons, f2]
   have : (pre ++ q0 :: q1 :: post).map (·.2) = pre.map (·.2) ++ q0.2 :: q1.2 :: post.map (·.2) := by simp
   rw [this, mer_split (by simp [hpre]) hpK]
   simp [List.map_take, List.map_drop]
  ·have g1 : refV (List.take p (pre.map (·.1.a))) ++ [.ref (mp.a + 186)] ++ refV (news.map (·.a)) = refV (((pre.take p ++ (mp, q0.2 ++ q1.2) :: news.zip ((pre.drop p ++ post).map (·.2))).map (·.1)).map (·.a)) := by
    rw [List.map_append, List.map_cons, f1]
    simp [refV, List.map_take, Function.comp_def]
   have g2 : ((pre.take p).map (·.1)).map Pc.led ++ (mp.led :: (news.map Pc.led ++ y'.r)) = ((pre.take p ++ (mp, q0.2 ++ q1.2) :: news.zip ((pre.drop p ++ post).map (·.2))).map (·.1)).map Pc.led ++ y'.r := by
    rw [List.map_append, List.map_cons, f1]
    simp
   rw [g1, g2] at S'
   exact S'
 have e1 : refV (((pre ++ q0 :: q1 :: post).map (·.1)).map (·.a)) = refV (pre.map (·.1.a)) ++ (.ref (q0.1.a + 186) :: .ref (q1.1.a + 186) :: refV (post.map (·.1.a))) := by simp [refV, Function.comp_def]
 have e2 : ((pre ++ q0 :: q1 :: post).map (·.1)).map Pc.led = ((pre.take p).map (·.1)).map Pc.led ++ (((pre.drop p).map (·.1)).map Pc.led ++ (q0.1.led :: q1.1.led :: (post.map (·.1)).map Pc.led)) := by
  rw [← List.append_assoc, ← List.map_append, ← List.map_append, List.take_append_drop]
  simp
 have e3 : ((pre.drop p ++ post).map (·.1)).map Pc.led = ((pre.drop p).map (·.1)).map Pc.led ++ (post.map (·.1)).map Pc.led := by simp
 unfold tlC tlE at S₀
 rw [e1, e2, List.append_assoc, List.append_assoc] at S₀
 have S1 := S₀.perm (perm_of [[_], [_], [_], [_], [_], [_], [_], [_], [_], [_], [_], [_], [_], (tbK zk), ((pre.take p).map (·.1)).map Pc.led, ((pre.drop p).map (·.1)).map Pc.led, [q0.1.led], [q1.1.led], (post.map (·.1)).map Pc.led, y.r] [0, 1, 2, 3, 4, 5, 6, 7, 8, 9, 16, 17, 10, 11, 13, 12, 14, 15, 18, 19] [0, 1, 2, 3, 4, 5, 6, 7, 8, 9, 10, 11, 12, 13, 14, 15, 16, 17, 18, 19] (by decide))
 have hiv : ∀ {i a t : Nat}, y.wl[i]? = some (a, t) → (intV y.wl)[i]? = some (.int (Int.ofNat a) t) := fun h => intV_get h
 have hjl : (gwJ (wk + wk1) ((y.wl.map (·.1)).take K) 0).length < 100 := by
  have h1 := gwJ_len (wk + wk1) ((y.wl.map (·.1)).take K) 0
  have h2 : ((y.wl.map (·.1)).take K).length ≤ K := by simp; lia
  lia
 have e4 : (y.wl.take K).map (·.1) = (y.wl.map (·.1)).take K := by simp [List.map_take]
 have hres : bisF (fun i => decide (mxAt ((y.kl ++ y.wl).map (·.1)) i < wk + wk1)) (y.ml + K - y.ml) y.ml (y.ml + K) = y.ml + p := by
  have := hb (y.kl.map (·.1))
  rw [List.length_map, ← hml] at this
  rw [List.map_append]
  exact this
 refine tjB (kz := decide (K = 0)) (y := { y with a0 := q0.1.a, a1 := q1.1.a, tx0 := q0.1.tx, ty0 := q0.1.ty, tx1 := q1.1.tx, ty1 := q1.1.ty, x0 := q0.1.x, y0 := q0.1.y, x1 := q1.1.x, y1 := q1.1.y, pre := pre.map (·.1.a), post := post.map (·.1.a), r := (z2.n + 186, namesO z2) :: (((pre.take p).map (·.1)).map Pc.led ++ (((pre.drop p ++ post).map (·.1)).map Pc.led ++ y.r)) }) (zk := zk) (j := j) (jl := jl) (K := K) (place := p) (nl := (y.kl ++ y.wl).length) (wk := wk) (tk0 := tk0) (wk1 := wk1) (tk1 := tk1) (js := gwJ (wk + wk1) ((y.wl.map (·.1)).take K) 0) (mx := mxJ (gwJ (wk + wk1) ((y.wl.map (·.1)).take K) 0) (-1)) (preT := (pre.take p).map (·.1)) (rest := (pre.drop p ++ post).map (·.1)) (r0 := y.r) (W0 := W0) (Lr := Lr) O hA hsz (by rw [← hKd]; simp) (hiv hwk) (hiv hwk1) (by lia) (by show (intV y.kl).length = y.ml; rw [len_intV, hml]) (by show y.ml < 100; lia) (by show y.wl.length < 100; lia) hjl hm (by simp [hpre]) (by simp; lia) rfl (by show (intV (y.kl ++ y.wl)).length = _; rw [len_intV]) (by simp; lia) (by show y.ml + K < _; simp; lia) hres (by show K ≤ y.wl.length; lia) rfl (by show gwJ _ ((y.wl.take K).map (·.1)) 0 = _; rw [e4]) rfl hq0.hx hq0.hy hq1.hx hq1.hy (by show q0.1.x.length < 100; lia) (by show q0.1.y.length < 100; lia) (by show q1.1.x.length < 100; lia) (by show q1.1.y.length < 100; lia) rfl (by simp [refV, List.map_drop, Function.comp_def]) hpK htext hwd hdl h2 (by simp; lia) (by simp; lia) (S1.perm (List.Perm.of_eq ?_)) next2
 exact congrArg (fun X : Led => (z1.n + 186, frTB (wf w b) lay z1 z2 z3 y) :: (y.it + 186, rangeItO j (jl + 1)) :: (z1.n + 188, cellO (.ref (y.we + 186))) :: (z1.n + 189, cellO (.ref (y.de + 186))) :: (z1.n + 190, (cellO y.bv)) :: (y.we + 186, listO (intV y.wl) y.wep) :: (y.ke + 186, listO (intV y.kl) y.kep) :: (y.de + 186, listO (intV y.dl) y.d0) :: (z3.n + 210, rowO (z3.n + 209) (refV (pre.map (·.1.a)) ++ (.ref (q0.1.a + 186) :: .ref (q1.1.a + 186) :: refV (post.map (·.1.a)))) y.rep) :: (z3.n + 209, rowDO (wf w b) z3) :: q0.1.led :: q1.1.led :: (y.c1 + 186, codeO y.v0 y.q y.ctq y.rs) :: (158, tabO [.int 108 0, .int 4 0, .ref (y.c1 + 186), .int 112 0, .int 13 0, .ref (y.c2 + 186)]) :: ((tbK zk) ++ ((z2.n + 186, namesO z2) :: (((pre.take p).map (·.1)).map Pc.led ++ X)))) (show ((pre.drop p ++ post).map (·.1)).map Pc.led ++ y.r = ((pre.drop p).map (·.1)).map Pc.led ++ ((post.map (·.1)).map Pc.led ++ y.r) by rw [e3, List.append_assoc])
end
noncomputable def TurnsTo : Nat → List Nat → List (List Nat) → List Nat → List Nat → Prop
 | 0, ws, is, ds, ds' => ds = ds'
 | n + 1, ws, is, ds, ds' => ∃ K p wk wk1 i0 i1, TurnOk ws K p wk wk1 ∧ is[K]? = some i0 ∧ is[K + 1]? = some i1 ∧ TurnsTo n (mer K p (wk + wk1) ws) (mer K p (i0 ++ i1) is) ((i0 ++ i1).foldl incD ds) ds'
theorem mer_sum {α : Type} {l : List (List α)} {K p : Nat} {a b : List α} (h0 : l[K]? = some a) (h1 : l[K + 1]? = some b) (hp : p ≤ K) : ((mer K p (a ++ b) l).map List.length).sum = (l.map List.length).sum := by
 have hK : K + 1 < l.length := (List.getElem?_eq_some_iff.mp h1).1
 obtain ⟨pre, a', b', post, rfl, hpre⟩ := split_at2 l K hK
 have ha : a' = a := by simpa [← hpre] using h0
 have hb : b' = b := by simpa [← hpre] using h1
 subst ha hb
 rw [mer_split hpre hp]
 have : (pre.map List.length).sum = ((pre.take p).map List.length).sum + ((pre.drop p).map List.length).sum := by
  rw [← List.sum_append, ← List.map_append, List.take_append_drop]
 simp only [List.map_append, List.sum_append, List.map_cons, List.map_nil, List.sum_cons, List.sum_nil, List.length_append] at this ⊢
 lia
theorem get_map2 {qs : List (Pc × List Wd)} {K : Nat} {i0 : List Nat} {q0 : List Wd} (h : (qs.map fun q => q.2.map (·.i))[K]? = some i0) (h0 : (qs.map (·.2))[K]? = some q0) : q0.map (·.i) = i0 := by
 rw [List.getElem?_map] at h h0
 cases e : qs[K]? with
 | none => rw [e] at h; cases h
 | some x =>
  rw [e] at h h0
  injection h with h
  injection h0 with h0
  rw [← h0, ← h]
noncomputable def tlZ (w : World) (z1 : Z1) (z2 : Z2) (z3 : Z3) (y : ZT) (bc : Obj) (T : Led) (qs : List Pc) : Led := (tlC w z1 z2 z3 y 0 0 bc T qs).tail
section
variable {h₀ : HS} {w : World} {b lay : Bool} {z1 : Z1} {z2 : Z2} {z3 : Z3} (O : (Bw w b h₀).Ok) {A₀ : Around} (hA : AOk A₀ 300) (hsz : 186 ≤ h₀.h.objs.size) {R : Result → Shared → Prop} {dr : Drawn} {os : OsState}
include O hA hsz
theorem turns_run (ds' : List Nat) (E : Led) : ∀ (n j it : Nat) (y : ZT) (zk : ZK) (qs : List (Pc × List Wd)) (h : Heap), y.it = it → TurnsTo n (y.wl.map (·.1)) (qs.map fun q => q.2.map (·.i)) (y.dl.map (·.1)) ds' → qs.length = y.wl.length → (∀ q ∈ qs, PcOk q.1 q.2) → ((qs.map (·.2)).map List.length).sum = 6 → y.wl.length ≤ 6 → y.ml = y.kl.length → y.kl.length + 6 * n ≤ 60 → y.dl.length = 6 → (∃ J, y.r = J ++ E) →
  St (Bw w b h₀) h ((z1.n + 186, frTB (wf w b) lay z1 z2 z3 y) :: tlC (wf w b) z1 z2 z3 y j n (cellO y.bv) (tbK zk) (qs.map (·.1))) (y.n + 186) →
  (∀ (h' : Heap) (t' : Nat) (y' : ZT) (zk' : ZK) (qs' : List (Pc × List Wd)) (J : Led), y'.dl.map (·.1) = ds' → y'.dl.length = 6 → y'.r = J ++ E →
   St (Bw w b h₀) h' ((z1.n + 186, frTB (wf w b) lay z1 z2 z3 y') :: tlZ (wf w b) z1 z2 z3 y' (cellO y'.bv) (tbK zk') (qs'.map (·.1))) (y'.n + 186) → R (.ok .next) (sh h' [.finished, .finished] dr t' os)) →
  cA w b A₀ (forOf (lawStmt (wf w b).params 14) (it + 186) (lawEnv (wf w b).params z1.n)) R (sh h [.finished, .finished] dr y.t os)
 | 0, j, it, y, zk, qs, h, hit, hT, hlen, hqs, hsum, hw6, hml, hkl, hdl, ⟨J, hJ⟩, S₀, next => by
  subst hit
  refine tnZ_t (n := y.n) (j := j) (r := (z1.n + 186, frTB (wf w b) lay z1 z2 z3 y) :: tlZ (wf w b) z1 z2 z3 y (cellO y.bv) (tbK zk) (qs.map (·.1))) O (hA.le (by lia)) (S₀.perm (List.Perm.swap _ _ _)) fun h' t' S' => ?_
  exact next h' t' { y with n := y.n + 2 } zk qs J hT hdl hJ S'
 | n + 1, j, it, y, zk, qs, h, hit, ⟨K, p, wk, wk1, i0, i1, hok, hi0, hi1, hT⟩, hlen, hqs, hsum, hw6, hml, hkl, hdl, ⟨J, hJ⟩, S₀, next => by
  subst hit
  refine tkB O hA hsz y zk j n qs K p wk wk1 hok hlen hqs (by simpa [Function.comp_def] using hsum) hw6 hml (by lia) hdl S₀ fun h' y' zk' qs' q0 q1 g0 g1 e1 e2 e3 e4 e5 e6 e7 e8 ⟨J2, e9⟩ S' => ?_
  have hK : K + 1 < (qs.map (·.2)).length := (List.getElem?_eq_some_iff.mp g1).1
  have hK2 : K + 1 < (y.wl.map (·.1)).length := (List.getElem?_eq_some_iff.mp hok.h1).1
  have l1 := mer_len K p (wk + wk1) (y.wl.map (·.1)) hok.hp hK2
  have l2 := mer_len K p (q0 ++ q1) (qs.map (·.2)) hok.hp hK
  rw [← e2] at l1
  rw [← e8] at l2
  simp only [List.length_map] at l1 l2
  have m0 := get_map2 hi0 g0
  have m1 := get_map2 hi1 g1
  have hi : qs'.map (fun q => q.2.map (·.i)) = mer K p (i0 ++ i1) (qs.map fun q => q.2.map (·.i)) := by
   have := congrArg (List.map (List.map (·.i))) e8
   rw [mer_map, List.map_append, m0, m1] at this
   simpa [Function.comp_def] using this
  have hs := mer_sum g0 g1 hok.hp
  rw [← e8, hsum] at hs
  rw [← e1]
  refine turns_run ds' E n (j + 1) y'.it y' zk' qs' h' rfl ?_ (by lia) e7 hs (by lia) e4 (by rw [e3, List.length_append]; lia) e5 ⟨J2 ++ J, by rw [e9, hJ, List.append_assoc]⟩ S' next
  rw [e2, hi, e6, List.map_append, m0, m1]
  exact hT
theorem turns_all (ds' : List Nat) (E : Led) (n : Nat) (y : ZT) (qs : List (Pc × List Wd)) (h : Heap) (hT : TurnsTo (n + 1) (y.wl.map (·.1)) (qs.map fun q => q.2.map (·.i)) (y.dl.map (·.1)) ds') (hlen : qs.length = y.wl.length) (hqs : ∀ q ∈ qs, PcOk q.1 q.2) (hsum : ((qs.map (·.2)).map List.length).sum = 6) (hw6 : y.wl.length ≤ 6) (hml : y.ml = y.kl.length) (hkl : y.kl.length + 6 * (n + 1) ≤ 60) (hdl : y.dl.length = 6) (hJ : (y.we + 186, listO (intV y.wl) y.wep) :: y.r = E)
  (S₀ : St (Bw w b h₀) h ((z1.n + 186, frTA (wf w b) lay z1 z2 z3 y) :: tlC (wf w b) z1 z2 z3 y 0 (n + 1) cell0 tb0 (qs.map (·.1))) (y.n + 186))
  (next : ∀ (h' : Heap) (t' : Nat) (y' : ZT) (zk' : ZK) (qs' : List (Pc × List Wd)) (J : Led), y'.dl.map (·.1) = ds' → y'.dl.length = 6 → y'.r = J ++ E →
   St (Bw w b h₀) h' ((z1.n + 186, frTB (wf w b) lay z1 z2 z3 y') :: tlZ (wf w b) z1 z2 z3 y' (cellO y'.bv) (tbK zk') (qs'.map (·.1))) (y'.n + 186) → R (.ok .next) (sh h' [.finished, .finished] dr t' os)) :
  cA w b A₀ (forOf (lawStmt (wf w b).params 14) (y.it + 186) (lawEnv (wf w b).params z1.n)) R (sh h [.finished, .finished] dr y.t os) := by
 obtain ⟨K, p, wk, wk1, i0, i1, hok, hi0, hi1, hT⟩ := hT
 refine tkA O hA hsz y ⟨0, 0, .none, S [], []⟩ 0 n qs K p wk wk1 hok hlen hqs (by simpa [Function.comp_def] using hsum) hw6 hml (by lia) hdl S₀ fun h' y' zk' qs' q0 q1 g0 g1 e1 e2 e3 e4 e5 e6 e7 e8 ⟨J2, e9⟩ S' => ?_
 have hK : K + 1 < (qs.map (·.2)).length := (List.getElem?_eq_some_iff.mp g1).1
 have hK2 : K + 1 < (y.wl.map (·.1)).length := (List.getElem?_eq_some_iff.mp hok.h1).1
 have l1 := mer_len K p (wk + wk1) (y.wl.map (·.1)) hok.hp hK2
 have l2 := mer_len K p (q0 ++ q1) (qs.map (·.2)) hok.hp hK
 rw [← e2] at l1
 rw [← e8] at l2
 simp only [List.length_map] at l1 l2
 have m0 := get_map2 hi0 g0
 have m1 := get_map2 hi1 g1
 have hi : qs'.map (fun q => q.2.map (·.i)) = mer K p (i0 ++ i1) (qs.map fun q => q.2.map (·.i)) := by
  have := congrArg (List.map (List.map (·.i))) e8
  rw [mer_map, List.map_append, m0, m1] at this
  simpa [Function.comp_def] using this
 have hs := mer_sum g0 g1 hok.hp
 rw [← e8, hsum] at hs
 rw [← e1]
 refine turns_run O hA hsz ds' E n (0 + 1) y'.it y' zk' qs' h' rfl ?_ (by lia) e7 hs (by lia) e4 (by rw [e3, List.length_append]; lia) e5 ⟨J2, by rw [e9, hJ]⟩ S' next
 rw [e2, hi, e6, List.map_append, m0, m1]
 exact hT
end
section
variable {h₀ : HS} {w : World} {b : Bool} (O : (Bw w b h₀).Ok) {A₀ : Around} (hA : AOk A₀ 140) {R : Result → Shared → Prop} {dr : Drawn} {os : OsState} {h : Heap}
include O hA
theorem sTA_t {fr it nu sc ep ks kn kk n t k j i : Nat} {q : Nat} {N v : Int} {uN uk u ne : Nat} {nl : List <| Int × Nat} {vs : List Value} {r : Led} {gl : List GenState} (hk : (Int.ofNat k).fmod 6 = Int.ofNat i) (hN : (intW nl)[i]? = some (.int N uN)) (hv : vs[k]? = some (.int v u)) (hk2 : k < 1000) (hi6 : i < 6) (hnl : nl.length = 6) (S₀ : St (Bw w b h₀) h ((fr + 186, frameO 2 [en (wf w b) c_script ks (.ref sc), en (wf w b) c_numers kn (.ref (nu + 186))]) :: (it + 186, rangeItO k (j + 1)) :: (nu + 186, listO (intW nl) ne) :: (sc, listO vs ep) :: r) (n + 186))
  (next : ∀ h' t', St (Bw w b h₀) h' ((fr + 186, frameO 3 [en (wf w b) c_script ks (.ref sc), en (wf w b) c_numers kn (.ref (nu + 186)), en (wf w b) [107] (t + 1) (.int (Int.ofNat k) t)]) :: (it + 186, rI (Int.ofNat (k + 1)) (Int.ofNat (j + 1) - 1)) :: (nu + 186, listO ((intW (nl.set i (N + v, t + 4)))) ne) :: (sc, listO vs ep) :: r) ((n + 186)) → cA w b A₀ (forOf (lawStmt (wf w b).params 1) (it + 186) (lawEnv (wf w b).params fr)) R (sh h' gl dr t' os)) :
  cA w b A₀ (forOf (lawStmt (wf w b).params 1) (it + 186) (lawEnv (wf w b).params fr)) R (sh h gl dr t os) := by
 exact code_run (f := 73) (ls := (dg 28 1342550608492911253636217158417984899018831719061581091)) (qs := [(3, .ora [] [] (bi "int.__mod__" [.int (Int.ofNat k) t, .int 6 (t + 2)]) (fun t => Value.int (Int.ofNat i) t) 1), (1, .ora [2] [((nu + 186), listO ((intW nl)) ne)] (lgi [.ref (nu + 186), .int (Int.ofNat i) (t + 3)]) (fun t => Value.int N uN) 0), (1, .ora [3] [(sc, listO ((vs)) ep)] (lgi [.ref sc, .int (Int.ofNat k) t]) (fun t => Value.int v u) 0), (3, .ora [] [] (bi "int.__mod__" [.int (Int.ofNat k) t, .int 6 (t + 5)]) (fun t => Value.int (Int.ofNat i) t) 1), (1, .mov [2] [((nu + 186), listO ((intW nl)) ne)] (bi "list.__setitem__" [.ref (nu + 186), .int (Int.ofNat i) (t + 6), .int (N + v) (t + 4)]) (fun n t => .ok (.ret (.none))) 0 [listO (intW (nl.set i (N + v, t + 4))) ne] (fun n => [])), (0, .cut)]) O hA  (aC (ora_mod _ _ _ _ _ (by decide) hk) <| aC (ora_list_item _ _ _ _ _ _ hN (by omega)) <| aC (ora_list_item _ _ _ _ _ _ hv hk2) <| aC (ora_mod _ _ _ _ _ (by decide) hk) <| aC (mov_setitem_eq _ _ _ _ _ _ _ (by simp [intW, hnl]; omega) (by simp [intW, hnl]) (by simp [intW, List.map_set])) <| aC trivial <| aN) (fine_loop (is := [0, 1, 2, 3]) (d := 4) (Vw.Is.eq (by refine Bool.rec ?_ ?_ b <;> and_intros <;> kernel_rfl)) rfl (next)) S₀
theorem sTB_t {fr it nu sc ep ks kn kk n t k j i : Nat} {q : Nat} {N v : Int} {uN uk u ne : Nat} {nl : List <| Int × Nat} {vs : List Value} {r : Led} {gl : List GenState} (hk : (Int.ofNat k).fmod 6 = Int.ofNat i) (hN : (intW nl)[i]? = some (.int N uN)) (hv : vs[k]? = some (.int v u)) (hk2 : k < 1000) (hi6 : i < 6) (hnl : nl.length = 6) (S₀ : St (Bw w b h₀) h ((fr + 186, frameO 3 [en (wf w b) c_script ks (.ref sc), en (wf w b) c_numers kn (.ref (nu + 186)), en (wf w b) [107] kk (.int (Int.ofNat q) uk)]) :: (it + 186, rangeItO k (j + 1)) :: (nu + 186, listO (intW nl) ne) :: (sc, listO vs ep) :: r) (n + 186))
  (next : ∀ h' t', St (Bw w b h₀) h' ((fr + 186, frameO 3 [en (wf w b) c_script ks (.ref sc), en (wf w b) c_numers kn (.ref (nu + 186)), en (wf w b) [107] kk (.int (Int.ofNat k) t)]) :: (it + 186, rI (Int.ofNat (k + 1)) (Int.ofNat (j + 1) - 1)) :: (nu + 186, listO ((intW (nl.set i (N + v, t + 4)))) ne) :: (sc, listO vs ep) :: r) ((n + 186)) → cA w b A₀ (forOf (lawStmt (wf w b).params 1) (it + 186) (lawEnv (wf w b).params fr)) R (sh h' gl dr t' os)) :
  cA w b A₀ (forOf (lawStmt (wf w b).params 1) (it + 186) (lawEnv (wf w b).params fr)) R (sh h gl dr t os) := by
 exact code_run (f := 73) (ls := (dg 28 1342550608492911253636217158417984899018831719061581091)) (qs := [(3, .ora [] [] (bi "int.__mod__" [.int (Int.ofNat k) t, .int 6 (t + 2)]) (fun t => Value.int (Int.ofNat i) t) 1), (1, .ora [2] [((nu + 186), listO ((intW nl)) ne)] (lgi [.ref (nu + 186), .int (Int.ofNat i) (t + 3)]) (fun t => Value.int N uN) 0), (1, .ora [3] [(sc, listO ((vs)) ep)] (lgi [.ref sc, .int (Int.ofNat k) t]) (fun t => Value.int v u) 0), (3, .ora [] [] (bi "int.__mod__" [.int (Int.ofNat k) t, .int 6 (t + 5)]) (fun t => Value.int (Int.ofNat i) t) 1), (1, .mov [2] [((nu + 186), listO ((intW nl)) ne)] (bi "list.__setitem__" [.ref (nu + 186), .int (Int.ofNat i) (t + 6), .int (N + v) (t + 4)]) (fun n t => .ok (.ret (.none))) 0 [listO (intW (nl.set i (N + v, t + 4))) ne] (fun n => [])), (0, .cut)]) O hA  (aC (ora_mod _ _ _ _ _ (by decide) hk) <| aC (ora_list_item _ _ _ _ _ _ hN (by omega)) <| aC (ora_list_item _ _ _ _ _ _ hv hk2) <| aC (ora_mod _ _ _ _ _ (by decide) hk) <| aC (mov_setitem_eq _ _ _ _ _ _ _ (by simp [intW, hnl]; omega) (by simp [intW, hnl]) (by simp [intW, List.map_set])) <| aC trivial <| aN) (fine_loop (is := [0, 1, 2, 3]) (d := 4) (Vw.Is.eq (by refine Bool.rec ?_ ?_ b <;> and_intros <;> kernel_rfl)) rfl (next)) S₀
theorem sTZ_t {fr it n t j : Nat} {r : Led} {gl : List GenState} (S₀ : St (Bw w b h₀) h ((it + 186, rangeItO j 0) :: r) (n + 186))
  (next : ∀ h' t', St (Bw w b h₀) h' (r) ((n + 188)) → R (.ok PySem.Flow.next) (sh h' gl dr t' os)) :
  cA w b A₀ (forOf (lawStmt (wf w b).params 1) (it + 186) (lawEnv (wf w b).params fr)) R (sh h gl dr t os) := by
 exact code_run (f := 21) (ls := [1, 1, 1, 1, 1, 1]) (qs := []) O hA  aN (fine_done (is := []) (d := 3) (Vw.Is.eq (by refine Bool.rec ?_ ?_ b <;> and_intros <;> kernel_rfl)) rfl (next)) S₀
end
theorem intW_getE {l : List (Int × Nat)} {i : Nat} (h : i < l.length) : (intW l)[i]? = some (.int l[i].1 l[i].2) := by
 simp [intW, h]
theorem fmod6 (k : Nat) : (Int.ofNat k).fmod 6 = Int.ofNat (k % 6) := by
 rw [Int.fmod_eq_emod_of_nonneg _ (by decide)]; simp
section
variable {h₀ : HS} {w : World} {b : Bool} (O : (Bw w b h₀).Ok) {A₀ : Around} (hA : AOk A₀ 140) {R : Result → Shared → Prop} {dr : Drawn} {os : OsState} {fr it nu sc ep ks kn n ne : Nat} {r : Led} {gl : List GenState} {is : List (Int × Nat)} (hm : is.length < 1000)
include O hA hm
theorem scr_go (next : ∀ (h' : Heap) (n' t' kk q ku : Nat) (nl : List (Int × Nat)), nl.length = 6 → St (Bw w b h₀) h' ((fr + 186, frL0 true 2 [en (wf w b) c_script ks (.ref sc), en (wf w b) c_numers kn (.ref (nu + 186))] (en (wf w b) [107] kk (.int (Int.ofNat q) ku)) []) :: (nu + 186, listO (intW nl) ne) :: (sc, listO (intW is) ep) :: r) (n' + 186) → R (.ok PySem.Flow.next) (sh h' gl dr t' os)) : ∀ (j k kk q uk t : Nat) (nl : List (Int × Nat)) (h : Heap), k + j = is.length → nl.length = 6 → St (Bw w b h₀) h ((fr + 186, frameO 3 [en (wf w b) c_script ks (.ref sc), en (wf w b) c_numers kn (.ref (nu + 186)), en (wf w b) [107] kk (.int (Int.ofNat q) uk)]) :: (it + 186, rangeItO k j) :: (nu + 186, listO (intW nl) ne) :: (sc, listO (intW is) ep) :: r) (n + 186) →
  cA w b A₀ (forOf (lawStmt (wf w b).params 1) (it + 186) (lawEnv (wf w b).params fr)) R (sh h gl dr t os)
 | 0, k, kk, q, uk, t, nl, h, hk, hnl, S₀ => by
  refine sTZ_t (fr := fr) (j := k) O hA (S₀.perm (List.Perm.swap _ _ _)) fun h' t' S' => ?_
  exact next h' (n + 2) t' kk q uk nl hnl S'
 | j + 1, k, kk, q, uk, t, nl, h, hk, hnl, S₀ => by
  have hk1 : k < is.length := by lia
  have hi : k % 6 < 6 := Nat.mod_lt _ (by decide)
  refine sTB_t (i := k % 6) O hA (fmod6 k) (intW_getE (by lia)) (intW_getE hk1) (by lia) hi hnl S₀ fun h' t' S' => ?_
  rw [rIt] at S'
  exact scr_go next j (k + 1) kk k t t' _ h' (by lia) (by simp [hnl]) S'
theorem scr_run (t : Nat) (nl : List (Int × Nat)) (hnl : nl.length = 6) (h : Heap) (S₀ : St (Bw w b h₀) h ((fr + 186, frameO 2 [en (wf w b) c_script ks (.ref sc), en (wf w b) c_numers kn (.ref (nu + 186))]) :: (it + 186, rangeItO 0 is.length) :: (nu + 186, listO (intW nl) ne) :: (sc, listO (intW is) ep) :: r) (n + 186))
  (next : ∀ (lay : Bool) (h' : Heap) (n' t' kk q ku : Nat) (nl : List (Int × Nat)), nl.length = 6 → St (Bw w b h₀) h' ((fr + 186, frL0 lay 2 [en (wf w b) c_script ks (.ref sc), en (wf w b) c_numers kn (.ref (nu + 186))] (en (wf w b) [107] kk (.int (Int.ofNat q) ku)) []) :: (nu + 186, listO (intW nl) ne) :: (sc, listO (intW is) ep) :: r) (n' + 186) → R (.ok PySem.Flow.next) (sh h' gl dr t' os)) :
  cA w b A₀ (forOf (lawStmt (wf w b).params 1) (it + 186) (lawEnv (wf w b).params fr)) R (sh h gl dr t os) := by
 generalize e : is.length = m at S₀
 cases m with
 | zero =>
  refine sTZ_t (fr := fr) (j := 0) O hA (S₀.perm (List.Perm.swap _ _ _)) fun h' t' S' => ?_
  exact next false h' (n + 2) t' 0 0 0 nl hnl S'
 | succ j =>
  refine sTA_t (i := 0) (kk := 0) (q := 0) (uk := 0) O hA rfl (intW_getE (by lia)) (intW_getE (by lia)) (by lia) (by decide) hnl S₀ fun h' t' S' => ?_
  rw [rIt] at S'
  exact scr_go O hA hm (next true) j 1 _ 0 _ t' _ h' (by lia) (by simp [hnl]) S'
end
structure IsT (ws : List Nat) (K p : Nat) : Prop where
 pos : ∀ x ∈ ws, 0 < x
 hK : K + 1 < ws.length
 hp : p ≤ K
 hk : ∀ i, i < K → ws.getD (i + 2) 0 < ws.getD i 0
 hk2 : K + 2 < ws.length → ws.getD K 0 ≤ ws.getD (K + 2) 0
 hb : ∀ j, p ≤ j → j < K → ws.getD j 0 < ws.getD K 0 + ws.getD (K + 1) 0
 ha : ∀ q, p = q + 1 → ws.getD K 0 + ws.getD (K + 1) 0 ≤ ws.getD q 0
theorem gwK_spec (ws : List Nat) : ∀ (f k : Nat), k + 1 < ws.length → ws.length ≤ k + 1 + f → (∀ i, i < k → ws.getD (i + 2) 0 < ws.getD i 0) → gwK ws f k + 1 < ws.length ∧ (∀ i, i < gwK ws f k → ws.getD (i + 2) 0 < ws.getD i 0) ∧ (gwK ws f k + 2 < ws.length → ws.getD (gwK ws f k) 0 ≤ ws.getD (gwK ws f k + 2) 0)
 | 0, k, h, h2, hi => by lia
 | f + 1, k, h, h2, hi => by
  have e0 : ws[k]? = some ws[k] := List.getElem?_eq_getElem (by lia)
  by_cases hl : k + 2 < ws.length
  ·have e1 : ws[k + 2]? = some ws[k + 2] := List.getElem?_eq_getElem hl
   have d0 : ws.getD k 0 = ws[k] := by rw [List.getD_eq_getElem?_getD, e0]; rfl
   have d1 : ws.getD (k + 2) 0 = ws[k + 2] := by rw [List.getD_eq_getElem?_getD, e1]; rfl
   unfold gwK
   rw [e0, e1]
   by_cases hc : ws[k] > ws[k + 2]
   ·simp only [hc, if_true]
    refine gwK_spec ws f (k + 1) (by lia) (by lia) fun i hi2 => ?_
    by_cases e : i = k
    ·subst e; lia
    ·exact hi i (by lia)
   ·simp only [hc, if_false]
    exact ⟨h, hi, fun _ => by lia⟩
  ·have e1 : ws[k + 2]? = none := List.getElem?_eq_none (by lia)
   unfold gwK
   rw [e0, e1]
   exact ⟨h, hi, fun h => absurd h hl⟩
theorem mxJ_spec (both : Nat) : ∀ (xs : List Nat) (j : Nat) (m : Int), m < j → m ≤ mxJ (gwJ both xs j) m ∧ mxJ (gwJ both xs j) m < j + xs.length ∧ (∀ i, i < xs.length → both ≤ xs.getD i 0 → (j + i : Int) ≤ mxJ (gwJ both xs j) m) ∧ (mxJ (gwJ both xs j) m = m ∨ ∃ i, i < xs.length ∧ mxJ (gwJ both xs j) m = (j + i : Int) ∧ both ≤ xs.getD i 0)
 | [], j, m, h => ⟨Int.le_refl _, by simpa [gwJ, mxJ] using h, fun i hi => absurd hi (Nat.not_lt_zero _), .inl rfl⟩
 | x :: xs, j, m, h => by
  by_cases hx : x ≥ both
  ·have hjm : Int.ofNat j > m := h
   simp only [gwJ, hx, if_true, mxJ, hjm]
   obtain ⟨h1, h2, h3, h4⟩ := mxJ_spec both xs (j + 1) (Int.ofNat j) (by simp; lia)
   have ej : Int.ofNat j = (j : Int) := rfl
   refine ⟨by lia, by simp only [List.length_cons]; lia, fun i hi hb => ?_, .inr ?_⟩
   ·cases i with
    | zero => lia
    | succ i =>
     have := h3 i (by simpa using hi) (by simpa using hb)
     lia
   ·rcases h4 with h4 | ⟨i, hi, h4, h5⟩
    ·exact ⟨0, by simp, by lia, by simpa using hx⟩
    ·exact ⟨i + 1, by simpa using hi, by lia, by simpa using h5⟩
  ·simp only [gwJ, hx, if_false]
   obtain ⟨h1, h2, h3, h4⟩ := mxJ_spec both xs (j + 1) m (by lia)
   refine ⟨h1, by simp only [List.length_cons]; lia, fun i hi hb => ?_, ?_⟩
   ·cases i with
    | zero => exact absurd (by simpa using hb) hx
    | succ i =>
     have := h3 i (by simpa using hi) (by simpa using hb)
     lia
   ·rcases h4 with h4 | ⟨i, hi, h4, h5⟩
    ·exact .inl h4
    ·exact .inr ⟨i + 1, by simpa using hi, by lia, by simpa using h5⟩
theorem bisF_spec (f : Nat → Bool) (x : Nat) (lo0 hi0 : Nat) (hlt : ∀ i, lo0 ≤ i → i < x → f i = false) (hge : ∀ i, x ≤ i → i < hi0 → f i = true) : ∀ (k lo hi : Nat), lo0 ≤ lo → lo ≤ x → x ≤ hi → hi ≤ hi0 → hi - lo ≤ k → bisF f k lo hi = x
 | 0, lo, hi, h0, h1, h2, h3, h4 => by unfold bisF; lia
 | k + 1, lo, hi, h0, h1, h2, h3, h4 => by
  unfold bisF
  by_cases h : lo < hi
  ·simp only [h, if_true]
   by_cases hf : x ≤ (lo + hi) / 2
   ·rw [hge _ hf (by lia)]
    exact bisF_spec f x lo0 hi0 hlt hge k _ _ h0 h1 hf (by lia) (by lia)
   ·rw [hlt _ (by lia) (by lia)]
    exact bisF_spec f x lo0 hi0 hlt hge k _ _ (by lia) (by lia) h2 h3 (by lia)
  ·simp only [h, if_false]; lia
theorem getD_app (kl ws : List Nat) (i : Nat) : (kl ++ ws).getD (kl.length + i) 0 = ws.getD i 0 := by
 simp [List.getD_eq_getElem?_getD, List.getElem?_append_right]
theorem getD_take (ws : List Nat) (K i : Nat) (h : i < K) : (ws.take K).getD i 0 = ws.getD i 0 := by
 simp [List.getD_eq_getElem?_getD, List.getElem?_take, h]
theorem IsT.pos' {ws : List Nat} {K p : Nat} (h : IsT ws K p) (i : Nat) (hi : i < ws.length) : 0 < ws.getD i 0 := by
 rw [List.getD_eq_getElem?_getD, List.getElem?_eq_getElem hi]
 exact h.pos _ (List.getElem_mem hi)
theorem IsT.down {ws : List Nat} {K p : Nat} (h : IsT ws K p) : ∀ (d i : Nat), i + 2 * d < K + 2 → ws.getD (i + 2 * d) 0 ≤ ws.getD i 0
 | 0, i, _ => Nat.le_refl _
 | d + 1, i, hi => by
  have h1 := h.down d i (by lia)
  have h2 := h.hk (i + 2 * d) (by lia)
  have e : i + 2 * (d + 1) = i + 2 * d + 2 := by lia
  rw [e]; lia
theorem IsT.turn {ws : List Nat} {K p : Nat} (h : IsT ws K p) (hg : gwK ws ws.length 0 = K) : TurnOk ws K p (ws.getD K 0) (ws.getD (K + 1) 0) where
 hK := hg
 h0 := by rw [List.getD_eq_getElem?_getD, List.getElem?_eq_getElem (by have := h.hK; lia)]; rfl
 h1 := by rw [List.getD_eq_getElem?_getD, List.getElem?_eq_getElem h.hK]; rfl
 hp := h.hp
 hm := by
  have hl : (ws.take K).length = K := by have := h.hK; simp; lia
  obtain ⟨h1, h2, h3, h4⟩ := mxJ_spec (ws.getD K 0 + ws.getD (K + 1) 0) (ws.take K) 0 (-1) (by lia)
  rw [hl] at h2 h3 h4
  have hp := h.hp
  have ep : Int.ofNat p = (p : Int) := rfl
  have up : mxJ (gwJ (ws.getD K 0 + ws.getD (K + 1) 0) (ws.take K) 0) (-1) < p := by
   rcases h4 with h4 | ⟨i, hi, h4, h5⟩
   ·lia
   ·rw [getD_take _ _ _ hi] at h5
    have : i < p := by
     apply Nat.lt_of_not_le
     intro hle
     have := h.hb i hle hi
     lia
    lia
  cases hq : p with
  | zero => subst hq; lia
  | succ q =>
   have := h.ha q hq
   have h6 := h3 q (by lia) (by rw [getD_take _ _ _ (by lia)]; exact this)
   subst hq
   lia
 hb := fun kl => by
  have hp := h.hp
  refine bisF_spec _ (kl.length + p) kl.length (kl.length + K) ?_ ?_ _ _ _ (Nat.le_refl _) (by lia) (by lia) (Nat.le_refl _) (Nat.le_refl _)
  ·intro i h0 hi
   obtain ⟨j, rfl⟩ : ∃ j, i = kl.length + j := ⟨i - kl.length, by lia⟩
   obtain ⟨q, hq⟩ : ∃ q, p = q + 1 := ⟨p - 1, by lia⟩
   have ha := h.ha q hq
   have m0 : ws.getD j 0 ≤ mxAt (kl ++ ws) (kl.length + j) := by
    unfold mxAt; rw [getD_app]; exact Nat.le_max_left _ _
   have m1 : ws.getD (j + 1) 0 ≤ mxAt (kl ++ ws) (kl.length + j) := by
    unfold mxAt; rw [Nat.add_assoc kl.length, getD_app, getD_app]; exact Nat.le_max_right _ _
   have : ws.getD q 0 ≤ mxAt (kl ++ ws) (kl.length + j) := by
    by_cases e : (q - j) % 2 = 0
    ·have := h.down ((q - j) / 2) j (by lia)
     have e2 : j + 2 * ((q - j) / 2) = q := by lia
     rw [e2] at this; lia
    ·have := h.down ((q - j) / 2) (j + 1) (by lia)
     have e2 : j + 1 + 2 * ((q - j) / 2) = q := by lia
     rw [e2] at this; lia
   simp only [decide_eq_false_iff_not]; lia
  ·intro i h0 hi
   obtain ⟨j, rfl⟩ : ∃ j, i = kl.length + j := ⟨i - kl.length, by lia⟩
   have hKl := h.hK
   have p1 := h.pos' (K + 1) h.hK
   have b0 := h.hb j (by lia) (by lia)
   have b1 : ws.getD (j + 1) 0 < ws.getD K 0 + ws.getD (K + 1) 0 := by
    by_cases e : j + 1 = K
    ·rw [e]; lia
    ·exact h.hb (j + 1) (by lia) (by lia)
   simp only [decide_eq_true_eq]
   unfold mxAt
   rw [Nat.add_assoc kl.length, getD_app, getD_app]
   exact Nat.max_lt.mpr ⟨b0, b1⟩
theorem place_ex (f : Nat → Nat) (both : Nat) : ∀ K : Nat, ∃ p, p ≤ K ∧ (∀ j, p ≤ j → j < K → f j < both) ∧ (∀ q, p = q + 1 → both ≤ f q)
 | 0 => ⟨0, Nat.le_refl _, fun j _ h => absurd h (Nat.not_lt_zero _), fun q h => absurd h (by lia)⟩
 | K + 1 => by
  by_cases h : both ≤ f K
  ·refine ⟨K + 1, Nat.le_refl _, fun j h1 h2 => absurd h2 (by lia), fun q hq => ?_⟩
   obtain rfl : K = q := by lia
   exact h
  ·obtain ⟨p, h1, h2, h3⟩ := place_ex f both K
   refine ⟨p, by lia, fun j hj hj2 => ?_, h3⟩
   by_cases e : j = K
   ·subst e; lia
   ·exact h2 j hj (by lia)
theorem IsT.ex (ws : List Nat) (pos : ∀ x ∈ ws, 0 < x) (hl : 2 ≤ ws.length) : ∃ K p, IsT ws K p ∧ gwK ws ws.length 0 = K := by
 obtain ⟨h1, h2, h3⟩ := gwK_spec ws ws.length 0 (by lia) (by lia) fun i hi => absurd hi (Nat.not_lt_zero _)
 obtain ⟨p, g1, g2, g3⟩ := place_ex (fun j => ws.getD j 0) (ws.getD (gwK ws ws.length 0) 0 + ws.getD (gwK ws ws.length 0 + 1) 0) (gwK ws ws.length 0)
 exact ⟨_, p, ⟨pos, h1, g1, h2, h3, g2, g3⟩, rfl⟩
noncomputable def nxt (ws : List Nat) (K p : Nat) : List Nat := mer K p (ws.getD K 0 + ws.getD (K + 1) 0) ws
noncomputable def runI : List (Nat × Nat) → List (List Nat) → List Nat → List Nat
 | [], is, ds => ds
 | (K, p) :: path, is, ds => runI path (mer K p (is.getD K [] ++ is.getD (K + 1) []) is) ((is.getD K [] ++ is.getD (K + 1) []).foldl incD ds)
noncomputable def Way : List Nat → List (Nat × Nat) → Prop
 | ws, [] => True
 | ws, (K, p) :: path => IsT ws K p ∧ gwK ws ws.length 0 = K ∧ Way (nxt ws K p) path
theorem nxt_len {ws : List Nat} {K p : Nat} (h : IsT ws K p) : (nxt ws K p).length + 1 = ws.length := mer_len _ _ _ _ h.hp h.hK
theorem nxt_pos {ws : List Nat} {K p : Nat} (h : IsT ws K p) : ∀ x ∈ nxt ws K p, 0 < x := by
 intro x hx
 simp only [nxt, mer, List.mem_append, List.mem_singleton] at hx
 rcases hx with ((hx | rfl) | hx) | hx
 ·exact h.pos _ (List.mem_of_mem_take hx)
 ·have := h.pos' (K + 1) h.hK; lia
 ·exact h.pos _ (List.mem_of_mem_take (List.mem_of_mem_drop hx))
 ·exact h.pos _ (List.mem_of_mem_drop hx)
theorem way_ex : ∀ (n : Nat) (ws : List Nat), (∀ x ∈ ws, 0 < x) → ws.length = n + 1 → ∃ path, path.length = n ∧ Way ws path
 | 0, ws, _, _ => ⟨[], rfl, trivial⟩
 | n + 1, ws, hp, hl => by
  obtain ⟨K, p, h, hg⟩ := IsT.ex ws hp (by lia)
  obtain ⟨path, h1, h2⟩ := way_ex n (nxt ws K p) (nxt_pos h) (by have := nxt_len h; lia)
  exact ⟨(K, p) :: path, by simp [h1], h, hg, h2⟩
theorem way_turns : ∀ (path : List (Nat × Nat)) (ws : List Nat) (is : List (List Nat)) (ds : List Nat), Way ws path → is.length = ws.length → TurnsTo path.length ws is ds (runI path is ds)
 | [], ws, is, ds, _, _ => rfl
 | (K, p) :: path, ws, is, ds, ⟨h, hg, hw⟩, hl => by
  have hK := h.hK
  refine ⟨K, p, _, _, is.getD K [], is.getD (K + 1) [], h.turn hg, ?_, ?_, way_turns path (nxt ws K p) _ _ hw ?_⟩
  ·rw [List.getD_eq_getElem?_getD, List.getElem?_eq_getElem (by lia)]; rfl
  ·rw [List.getD_eq_getElem?_getD, List.getElem?_eq_getElem (by lia)]; rfl
  ·have h1 := mer_len K p (is.getD K [] ++ is.getD (K + 1) []) is h.hp (by lia)
   have h2 := nxt_len h
   lia
noncomputable def dot : List Nat → List Nat → Nat
 | a :: as, b :: bs => a * b + dot as bs
 | _, _ => 0
noncomputable def vadd : List Nat → List Nat → List Nat
 | [], b => b
 | a, [] => a
 | x :: a, y :: b => (x + y) :: vadd a b
noncomputable def vle : List Nat → List Nat → Bool
 | [], _ => true
 | x :: a, [] => x.beq 0 && vle a []
 | x :: a, y :: b => x.ble y && vle a b
theorem dot_nil (ws : List Nat) : dot ws [] = 0 := by cases ws <;> rfl
theorem dot_vadd : ∀ ws a b : List Nat, dot ws (vadd a b) = dot ws a + dot ws b
 | ws, [], b => by simp [vadd, dot_nil]
 | ws, x :: a, [] => by simp [vadd, dot_nil]
 | [], x :: a, y :: b => by simp [dot, vadd]
 | w :: ws, x :: a, y :: b => by
  have := dot_vadd ws a b
  simp only [dot, vadd, Nat.mul_add] at this ⊢
  lia
theorem dot_vle : ∀ ws a b : List Nat, vle a b = true → dot ws a ≤ dot ws b
 | ws, [], b, _ => by simp [dot_nil]
 | [], x :: a, b, _ => by simp [dot]
 | w :: ws, x :: a, [], h => by
  simp only [vle, Bool.and_eq_true] at h
  obtain rfl := Nat.eq_of_beq_eq_true h.1
  have := dot_vle ws a [] h.2
  simp only [dot, dot_nil] at this ⊢
  lia
 | w :: ws, x :: a, y :: b, h => by
  simp only [vle, Bool.and_eq_true] at h
  have h1 := Nat.mul_le_mul_left w (Nat.le_of_ble_eq_true h.1)
  have := dot_vle ws a b h.2
  simp only [dot]
  lia
theorem dot_app : ∀ l r a b : List Nat, l.length = a.length → dot (l ++ r) (a ++ b) = dot l a + dot r b
 | [], r, [], b, _ => by simp [dot]
 | x :: l, r, y :: a, b, h => by
  have := dot_app l r a b (by simpa using h)
  simp only [List.cons_append, dot, this]; lia
theorem dot_inc : ∀ ws v : List Nat, ws.length = v.length → dot ws (v.map (· + 1)) = dot ws v + ws.sum
 | [], [], _ => rfl
 | x :: l, y :: a, h => by
  have := dot_inc l a (by simpa using h)
  simp only [List.map_cons, dot, this, List.sum_cons, Nat.mul_add]; lia
noncomputable def eU : Nat → Nat → List Nat
 | _, 0 => []
 | 0, _ + 1 => [1]
 | i + 1, m + 1 => 0 :: eU i m
theorem dot_eU : ∀ (ws : List Nat) (i : Nat), dot ws (eU i ws.length) = ws.getD i 0
 | [], i => by cases i <;> rfl
 | x :: ws, 0 => by simp [eU, dot, dot_nil]
 | x :: ws, i + 1 => by
  have := dot_eU ws i
  simpa [eU, dot] using this
noncomputable def cmb (A B : List (List Nat)) : List (List Nat) := A.flatMap fun l => B.map fun r => (l ++ r).map (· + 1)
noncomputable def tr1 : List (List Nat) := [[0]]
noncomputable def tr2 := cmb tr1 tr1
noncomputable def tr3 := cmb tr2 tr1 ++ cmb tr1 tr2
noncomputable def tr4 := cmb tr3 tr1 ++ (cmb tr2 tr2 ++ cmb tr1 tr3)
noncomputable def tr5 := cmb tr4 tr1 ++ (cmb tr3 tr2 ++ (cmb tr2 tr3 ++ cmb tr1 tr4))
noncomputable def tr6 := cmb tr5 tr1 ++ (cmb tr4 tr2 ++ (cmb tr3 tr3 ++ (cmb tr2 tr4 ++ cmb tr1 tr5)))
noncomputable def tr : Nat → List (List Nat)
 | 1 => tr1
 | 2 => tr2
 | 3 => tr3
 | 4 => tr4
 | 5 => tr5
 | 6 => tr6
 | _ => []
theorem tr_len : ∀ n, n ≤ 6 → ∀ v ∈ tr n, v.length = n := by decide +kernel
noncomputable def Opt (ws : List Nat) (x : Nat) : Prop := (∃ v ∈ tr ws.length, dot ws v = x) ∧ ∀ v ∈ tr ws.length, x ≤ dot ws v
theorem opt1 (a : Nat) : Opt [a] 0 := ⟨⟨[0], List.mem_cons_self .., by simp [dot]⟩, fun _ _ => Nat.zero_le _⟩
theorem minN_spec : ∀ (l : List Nat) (m : Nat), minN l m ∈ m :: l ∧ ∀ c ∈ m :: l, minN l m ≤ c
 | [], m => by simp [minN]
 | x :: l, m => by
  obtain ⟨h1, h2⟩ := minN_spec l (min x m)
  have h3 := h2 _ (List.mem_cons_self ..)
  refine ⟨?_, fun c hc => ?_⟩
  ·simp only [minN, List.mem_cons] at h1 ⊢
   rcases h1 with h1 | h1
   ·rw [h1]
    rcases Nat.le_total x m with h | h
    ·exact .inr (.inl (Nat.min_eq_left h))
    ·exact .inl (Nat.min_eq_right h)
   ·exact .inr (.inr h1)
  ·simp only [minN]
   rcases List.mem_cons.mp hc with rfl | hc
   ·exact Nat.le_trans h3 (Nat.min_le_right _ _)
   ·rcases List.mem_cons.mp hc with rfl | hc
    ·exact Nat.le_trans h3 (Nat.min_le_left _ _)
    ·exact h2 c (List.mem_cons_of_mem _ hc)
theorem mem_cmb {A B : List (List Nat)} {v : List Nat} : v ∈ cmb A B ↔ ∃ l ∈ A, ∃ r ∈ B, v = (l ++ r).map (· + 1) := by
 simp only [cmb, List.mem_flatMap, List.mem_map]
 constructor
 ·rintro ⟨l, hl, r, hr, rfl⟩; exact ⟨l, hl, r, hr, rfl⟩
 ·rintro ⟨l, hl, r, hr, rfl⟩; exact ⟨l, hl, r, hr, rfl⟩
structure Cut (L R : List Nat) (c : Nat) : Prop where
 le : ∀ v ∈ cmb (tr L.length) (tr R.length), c + (L ++ R).sum ≤ dot (L ++ R) v
 ex : ∃ v ∈ cmb (tr L.length) (tr R.length), dot (L ++ R) v = c + (L ++ R).sum
theorem cut_of {L R : List Nat} {x y : Nat} (hL : Opt L x) (hR : Opt R y) (h1 : L.length ≤ 6) (h2 : R.length ≤ 6) : Cut L R (x + y) := by
 have key : ∀ l ∈ tr L.length, ∀ r ∈ tr R.length, dot (L ++ R) ((l ++ r).map (· + 1)) = dot L l + dot R r + (L ++ R).sum := by
  intro l hl r hr
  have e1 := tr_len _ h1 l hl
  have e2 := tr_len _ h2 r hr
  rw [dot_inc _ _ (by simp [e1, e2]), dot_app _ _ _ _ e1.symm]
 refine ⟨fun v hv => ?_, ?_⟩
 ·obtain ⟨l, hl, r, hr, rfl⟩ := mem_cmb.mp hv
  rw [key l hl r hr]
  have := hL.2 l hl
  have := hR.2 r hr
  lia
 ·obtain ⟨l, hl, e1⟩ := hL.1
  obtain ⟨r, hr, e2⟩ := hR.1
  exact ⟨_, mem_cmb.mpr ⟨l, hl, r, hr, rfl⟩, by rw [key l hl r hr, e1, e2]⟩
noncomputable def OptIn (ws : List Nat) (V : List (List Nat)) (x : Nat) : Prop := (∃ v ∈ V, dot ws v = x) ∧ ∀ v ∈ V, x ≤ dot ws v
theorem OptIn.or {ws : List Nat} {V U : List (List Nat)} {x y S : Nat} (h : OptIn ws V (x + S)) (k : OptIn ws U (y + S)) : OptIn ws (V ++ U) (min x y + S) := by
 obtain ⟨⟨v, hv, ev⟩, hV⟩ := h
 obtain ⟨⟨u, hu, eu⟩, hU⟩ := k
 have h1 : min x y ≤ x := Nat.min_le_left ..
 have h2 : min x y ≤ y := Nat.min_le_right ..
 refine ⟨?_, fun z hz => ?_⟩
 ·rcases Nat.le_total x y with h | h
  ·exact ⟨v, List.mem_append_left _ hv, by rw [Nat.min_eq_left h, ev]⟩
  ·exact ⟨u, List.mem_append_right _ hu, by rw [Nat.min_eq_right h, eu]⟩
 ·rcases List.mem_append.mp hz with hz | hz
  ·exact Nat.le_trans (Nat.add_le_add_right h1 S) (hV z hz)
  ·exact Nat.le_trans (Nat.add_le_add_right h2 S) (hU z hz)
theorem Cut.opt {L R ws : List Nat} {c : Nat} (h : Cut L R c) (e : L ++ R = ws) : OptIn ws (cmb (tr L.length) (tr R.length)) (c + ws.sum) := by
 subst e
 exact ⟨h.ex, h.le⟩
theorem OptIn.to {ws : List Nat} {V : List (List Nat)} {x y : Nat} (h : OptIn ws V x) (e : tr ws.length = V) (exy : y = x) : Opt ws y := by
 subst e exy; exact h
theorem cto {L R ws : List Nat} {x y : Nat} (hL : Opt L x) (hR : Opt R y) (e : L ++ R = ws) (h1 : L.length ≤ 6) (h2 : R.length ≤ 6) : OptIn ws (cmb (tr L.length) (tr R.length)) (x + y + ws.sum) := (cut_of hL hR h1 h2).opt e
theorem opt2 {a b w : Nat} (h : w = 0 + [a, b].sum) : Opt [a, b] w :=
 (cto (opt1 a) (opt1 b) (show [a] ++ [b] = [a, b] from rfl) (by simp) (by simp)).to rfl h
theorem opt3 {a b c x y w : Nat} (h1 : Opt [b, c] x) (h2 : Opt [a, b] y) (h : w = minN [y] (0 + x) + [a, b, c].sum) : Opt [a, b, c] w :=
 ((cto h2 (opt1 c) (show [a, b] ++ [c] = [a, b, c] from rfl) (by simp) (by simp)).or (cto (opt1 a) h1 (show [a] ++ [b, c] = [a, b, c] from rfl) (by simp) (by simp))).to rfl h
theorem opt4 {a b c d x y z u w : Nat} (h1 : Opt [b, c, d] x) (h2 : Opt [a, b] y) (h3 : Opt [c, d] z) (h4 : Opt [a, b, c] u) (h : w = minN [y + z, u] (0 + x) + [a, b, c, d].sum) : Opt [a, b, c, d] w :=
 ((cto h4 (opt1 d) (show [a, b, c] ++ [d] = [a, b, c, d] from rfl) (by simp) (by simp)).or ((cto h2 h3 (show [a, b] ++ [c, d] = [a, b, c, d] from rfl) (by simp) (by simp)).or (cto (opt1 a) h1 (show [a] ++ [b, c, d] = [a, b, c, d] from rfl) (by simp) (by simp)))).to rfl h
theorem opt5 {a b c d e x y z u v p w : Nat} (h1 : Opt [b, c, d, e] x) (h2 : Opt [a, b] y) (h3 : Opt [c, d, e] z) (h4 : Opt [a, b, c] u) (h5 : Opt [d, e] v) (h6 : Opt [a, b, c, d] p) (h : w = minN [y + z, u + v, p] (0 + x) + [a, b, c, d, e].sum) : Opt [a, b, c, d, e] w :=
 ((cto h6 (opt1 e) (show [a, b, c, d] ++ [e] = [a, b, c, d, e] from rfl) (by simp) (by simp)).or ((cto h4 h5 (show [a, b, c] ++ [d, e] = [a, b, c, d, e] from rfl) (by simp) (by simp)).or ((cto h2 h3 (show [a, b] ++ [c, d, e] = [a, b, c, d, e] from rfl) (by simp) (by simp)).or (cto (opt1 a) h1 (show [a] ++ [b, c, d, e] = [a, b, c, d, e] from rfl) (by simp) (by simp))))).to rfl h
theorem opt6 {a b c d e f x y z u v p q r w : Nat} (h1 : Opt [b, c, d, e, f] x) (h2 : Opt [a, b] y) (h3 : Opt [c, d, e, f] z) (h4 : Opt [a, b, c] u) (h5 : Opt [d, e, f] v) (h6 : Opt [a, b, c, d] p) (h7 : Opt [e, f] q) (h8 : Opt [a, b, c, d, e] r) (h : w = minN [y + z, u + v, p + q, r] (0 + x) + [a, b, c, d, e, f].sum) : Opt [a, b, c, d, e, f] w :=
 ((cto h8 (opt1 f) (show [a, b, c, d, e] ++ [f] = [a, b, c, d, e, f] from rfl) (by simp) (by simp)).or ((cto h6 h7 (show [a, b, c, d] ++ [e, f] = [a, b, c, d, e, f] from rfl) (by simp) (by simp)).or ((cto h4 h5 (show [a, b, c] ++ [d, e, f] = [a, b, c, d, e, f] from rfl) (by simp) (by simp)).or ((cto h2 h3 (show [a, b] ++ [c, d, e, f] = [a, b, c, d, e, f] from rfl) (by simp) (by simp)).or (cto (opt1 a) h1 (show [a] ++ [b, c, d, e, f] = [a, b, c, d, e, f] from rfl) (by simp) (by simp)))))).to rfl h
noncomputable def cns (m K p : Nat) : List (List Nat × List Nat) :=
 (List.range K).map (fun i => (eU (i + 2) m, eU i m)) ++ ((if K + 2 < m then [(eU K m, eU (K + 2) m)] else []) ++ ((((List.range K).filter (fun j => p.ble j)).map fun j => (eU j m, vadd (eU K m) (eU (K + 1) m))) ++ (match p with | 0 => [] | q + 1 => [(vadd (eU K m) (eU (K + 1) m), eU q m)])))
theorem cns_ok {ws : List Nat} {K p : Nat} (h : IsT ws K p) : ∀ c ∈ cns ws.length K p, dot ws c.1 ≤ dot ws c.2 := by
 intro c hc
 simp only [cns, List.mem_append, List.mem_map, List.mem_range, List.mem_filter] at hc
 rcases hc with ⟨i, hi, rfl⟩ | hc | ⟨j, ⟨hj, hpj⟩, rfl⟩ | hc
 ·have := h.hk i hi
  simp only [dot_eU]; lia
 ·by_cases hl : K + 2 < ws.length
  ·simp only [hl, if_true, List.mem_singleton] at hc
   subst hc
   have := h.hk2 hl
   simpa only [dot_eU] using this
  ·simp [hl] at hc
 ·have := h.hb j (Nat.le_of_ble_eq_true hpj) hj
  simp only [dot_eU, dot_vadd]; lia
 ·cases p with
  | zero => simp at hc
  | succ q =>
   simp only [List.mem_singleton] at hc
   subst hc
   have := h.ha q rfl
   simpa only [dot_eU, dot_vadd] using this
noncomputable def lft (K p : Nat) (v : List Nat) : List Nat := v.take p ++ ((v.take (K + 1)).drop (p + 1) ++ ((v.getD p 0 + 1) :: (v.getD p 0 + 1) :: v.drop (K + 1)))
theorem dot_lft {ws v : List Nat} {K p : Nat} (hp : p ≤ K) (hK : K + 1 < ws.length) (hv : v.length + 1 = ws.length) : dot ws (lft K p v) = ws.getD K 0 + ws.getD (K + 1) 0 + dot (nxt ws K p) v := by
 have eW : ws = ws.take p ++ ((ws.take K).drop p ++ (ws.getD K 0 :: ws.getD (K + 1) 0 :: ws.drop (K + 2))) := by
  have e1 : ws.drop K = ws.getD K 0 :: ws.getD (K + 1) 0 :: ws.drop (K + 2) := by
   rw [List.drop_eq_getElem_cons (by lia), List.drop_eq_getElem_cons (by lia)]
   simp [List.getD_eq_getElem?_getD, List.getElem?_eq_getElem, hK, show K < ws.length by lia]
  rw [← e1, ← List.append_assoc]
  have e2 : ws.take p ++ (ws.take K).drop p = ws.take K := by
   have := List.take_append_drop p (ws.take K)
   rw [List.take_take, Nat.min_eq_left hp] at this
   exact this
  rw [e2, List.take_append_drop]
 have eV : v = v.take p ++ ([v.getD p 0] ++ ((v.take (K + 1)).drop (p + 1) ++ v.drop (K + 1))) := by
  have e1 : v.drop p = v.getD p 0 :: v.drop (p + 1) := by
   rw [List.drop_eq_getElem_cons (by lia)]
   simp [List.getD_eq_getElem?_getD, List.getElem?_eq_getElem, show p < v.length by lia]
  have e2 : v.drop (p + 1) = (v.take (K + 1)).drop (p + 1) ++ v.drop (K + 1) := by
   have := List.take_append_drop (p + 1) (v.take (K + 1))
   rw [List.take_take, Nat.min_eq_left (by lia)] at this
   have e3 := List.take_append_drop (K + 1) v
   rw [← this, List.append_assoc] at e3
   have e4 := congrArg (List.drop (p + 1)) e3
   rw [List.drop_append_of_le_length (by simp; lia)] at e4
   have e5 : (v.take (p + 1)).drop (p + 1) = [] := by simp
   rw [e5, List.nil_append] at e4
   exact e4.symm
  rw [← e2, List.singleton_append, ← e1, List.take_append_drop]
 have eN : nxt ws K p = ws.take p ++ ([ws.getD K 0 + ws.getD (K + 1) 0] ++ ((ws.take K).drop p ++ ws.drop (K + 2))) := by
  simp [nxt, mer]
 have l1 : (ws.take p).length = (v.take p).length := by simp; lia
 have l2 : ((ws.take K).drop p).length = ((v.take (K + 1)).drop (p + 1)).length := by simp; lia
 rw [eN]
 conv => lhs; rw [eW]
 conv => rhs; rw [eV]
 unfold lft
 rw [dot_app _ _ _ _ l1, dot_app _ _ _ _ l2, dot_app _ _ _ _ l1, dot_app [ws.getD K 0 + ws.getD (K + 1) 0] _ [v.getD p 0] _ rfl, dot_app _ _ _ _ l2]
 simp only [dot, Nat.mul_add, Nat.add_mul]
 lia
noncomputable def chk (cs : List (List Nat × List Nat)) (u v : List Nat) (ix : List Nat) : Bool :=
 vle (ix.foldl (fun a i => vadd a (cs.getD i ([], [])).2) u) (ix.foldl (fun a i => vadd a (cs.getD i ([], [])).1) v)
theorem chk_ok {ws : List Nat} {cs : List (List Nat × List Nat)} (hcs : ∀ c ∈ cs, dot ws c.1 ≤ dot ws c.2) {u v : List Nat} {ix : List Nat} (h : chk cs u v ix = true) : dot ws u ≤ dot ws v := by
 have h := dot_vle ws _ _ h
 have key : ∀ (ix : List Nat) (u v : List Nat), dot ws (ix.foldl (fun a i => vadd a (cs.getD i ([], [])).2) u) ≤ dot ws (ix.foldl (fun a i => vadd a (cs.getD i ([], [])).1) v) → dot ws u ≤ dot ws v := by
  intro ix
  induction ix with
  | nil => exact fun u v h => h
  | cons i ix ih =>
   intro u v h
   have := ih _ _ h
   rw [dot_vadd, dot_vadd] at this
   have hc : dot ws (cs.getD i ([], [])).1 ≤ dot ws (cs.getD i ([], [])).2 := by
    rw [List.getD_eq_getElem?_getD]
    cases e : cs[i]? with
    | none => simp
    | some c => exact hcs c (List.mem_of_getElem? e)
   lia
 exact key ix u v h
noncomputable def ixs (n : Nat) : List (List Nat) := [] :: ((List.range n).map (fun i => [i]) ++ (List.range n).flatMap fun i => (List.range n).map fun j => [i, j])
noncomputable def chkS (cs : List (List Nat × List Nat)) (u v : List Nat) : Bool := (ixs cs.length).any fun ix => chk cs u v ix
noncomputable def chkL (U : List (List Nat)) (t : List Nat → List Nat → Bool) : List (List Nat) → List Nat → Bool
 | [], _ => true
 | v :: V, j :: C => (match U[j]? with | none => false | some u => t u v) && chkL U t V C
 | _ :: _, [] => false
theorem chkL_ok {U : List (List Nat)} {t : List Nat → List Nat → Bool} : ∀ (V : List (List Nat)) (C : List Nat), chkL U t V C = true → ∀ v ∈ V, ∃ u ∈ U, t u v = true
 | [], _, _, v, hv => nomatch hv
 | w :: V, j :: C, h, v, hv => by
  simp only [chkL, Bool.and_eq_true] at h
  rcases List.mem_cons.mp hv with rfl | hv
  ·cases e : U[j]? with
   | none => rw [e] at h; exact absurd h.1 (by simp)
   | some u => rw [e] at h; exact ⟨u, List.mem_of_getElem? e, h.1⟩
  ·exact chkL_ok V C h.2 v hv
noncomputable def crt1 : Nat → Nat → Nat → List Nat
 | 2, 0, 0 => [0]
 | 3, 0, 0 => [0, 0]
 | 3, 1, 0 => [0, 0]
 | 3, 1, 1 => [0, 0]
 | 4, 0, 0 => [0, 0, 1, 1, 1]
 | 4, 1, 0 => [0, 0, 1, 1, 1]
 | 4, 1, 1 => [0, 0, 1, 1, 1]
 | 4, 2, 0 => [1, 1, 1, 1, 1]
 | 4, 2, 1 => [0, 0, 1, 1, 1]
 | 4, 2, 2 => [0, 0, 0, 1, 1]
 | 5, 0, 0 => [0, 0, 1, 1, 1, 2, 2, 3, 4, 3, 3, 4, 3, 4]
 | 5, 1, 0 => [0, 0, 1, 1, 1, 2, 2, 2, 4, 2, 2, 4, 4, 4]
 | 5, 1, 1 => [0, 0, 1, 1, 1, 2, 2, 2, 4, 3, 3, 4, 4, 4]
 | 5, 2, 0 => [1, 1, 1, 1, 1, 3, 2, 2, 2, 2, 2, 4, 2, 2]
 | 5, 2, 1 => [0, 0, 1, 1, 1, 2, 2, 2, 2, 3, 3, 4, 4, 4]
 | 5, 2, 2 => [0, 0, 0, 1, 1, 2, 2, 2, 2, 3, 3, 4, 4, 4]
 | 5, 3, 0 => [3, 3, 3, 4, 4, 3, 4, 2, 2, 4, 4, 4, 2, 2]
 | 5, 3, 1 => [2, 2, 2, 2, 2, 2, 4, 2, 2, 4, 4, 4, 4, 4]
 | 5, 3, 2 => [0, 0, 0, 2, 2, 2, 2, 2, 2, 3, 3, 4, 4, 4]
 | 5, 3, 3 => [0, 0, 0, 1, 1, 0, 1, 2, 2, 3, 3, 3, 4, 4]
 | 6, 0, 0 => [0, 0, 1, 1, 1, 2, 2, 3, 4, 3, 3, 4, 3, 4, 5, 5, 6, 6, 6, 7, 8, 7, 8, 9, 10, 11, 12, 13, 9, 9, 10, 9, 10, 11, 11, 12, 13, 9, 10, 10, 12, 12]
 | 6, 1, 0 => [0, 0, 1, 1, 1, 2, 2, 2, 4, 2, 2, 4, 4, 4, 5, 5, 6, 6, 6, 7, 8, 7, 8, 7, 7, 8, 12, 13, 7, 7, 7, 7, 7, 7, 7, 12, 13, 12, 12, 13, 12, 13]
 | 6, 1, 1 => [0, 0, 1, 1, 1, 2, 2, 2, 4, 3, 3, 4, 4, 4, 5, 5, 6, 6, 6, 7, 8, 7, 8, 7, 7, 8, 12, 13, 9, 9, 10, 10, 10, 11, 11, 12, 13, 12, 12, 13, 12, 13]
 | 6, 2, 0 => [1, 1, 1, 1, 1, 3, 2, 2, 2, 2, 2, 4, 2, 2, 6, 6, 6, 6, 6, 6, 11, 7, 8, 7, 7, 8, 8, 8, 7, 7, 7, 7, 7, 7, 7, 7, 13, 8, 8, 8, 8, 8]
 | 6, 2, 1 => [0, 0, 1, 1, 1, 2, 2, 2, 2, 3, 3, 4, 4, 4, 5, 5, 6, 6, 6, 7, 7, 7, 8, 7, 7, 8, 8, 8, 9, 9, 10, 10, 10, 11, 11, 11, 13, 11, 11, 13, 13, 13]
 | 6, 2, 2 => [0, 0, 0, 1, 1, 2, 2, 2, 2, 3, 3, 4, 4, 4, 5, 5, 5, 6, 6, 5, 8, 7, 8, 7, 7, 8, 8, 8, 9, 9, 10, 10, 10, 11, 11, 11, 13, 12, 12, 13, 13, 13]
 | 6, 3, 0 => [3, 3, 3, 4, 4, 3, 4, 2, 2, 4, 4, 4, 2, 2, 9, 10, 6, 7, 7, 6, 6, 7, 7, 7, 7, 8, 8, 8, 7, 7, 7, 7, 7, 12, 7, 7, 7, 8, 8, 8, 8, 8]
 | 6, 3, 1 => [2, 2, 2, 2, 2, 2, 4, 2, 2, 4, 4, 4, 4, 4, 7, 7, 7, 7, 7, 6, 6, 7, 7, 7, 7, 8, 8, 8, 10, 10, 10, 10, 10, 12, 11, 11, 11, 11, 11, 13, 11, 11]
 | 6, 3, 2 => [0, 0, 0, 2, 2, 2, 2, 2, 2, 3, 3, 4, 4, 4, 5, 5, 5, 6, 6, 5, 5, 7, 8, 7, 7, 8, 8, 8, 9, 9, 10, 10, 10, 11, 11, 11, 11, 12, 12, 13, 13, 13]
 | 6, 3, 3 => [0, 0, 0, 1, 1, 0, 1, 2, 2, 3, 3, 3, 4, 4, 5, 5, 5, 6, 6, 5, 5, 6, 6, 7, 7, 8, 8, 8, 9, 9, 9, 10, 10, 11, 11, 11, 11, 12, 12, 13, 13, 13]
 | 6, 4, 0 => [9, 9, 9, 10, 10, 9, 10, 11, 11, 12, 12, 12, 13, 13, 9, 10, 11, 12, 13, 6, 6, 7, 7, 8, 8, 8, 8, 8, 12, 12, 12, 13, 13, 12, 13, 7, 7, 8, 8, 8, 8, 8]
 | 6, 4, 1 => [7, 7, 7, 7, 7, 7, 7, 7, 7, 7, 7, 7, 7, 7, 7, 7, 7, 12, 13, 6, 6, 7, 7, 8, 8, 8, 8, 8, 12, 12, 12, 13, 13, 12, 13, 11, 11, 13, 13, 13, 11, 11]
 | 6, 4, 2 => [5, 5, 5, 5, 5, 5, 5, 5, 5, 8, 8, 8, 8, 8, 5, 5, 8, 8, 8, 5, 5, 8, 7, 8, 8, 8, 8, 8, 11, 11, 11, 11, 11, 11, 13, 11, 11, 13, 13, 13, 13, 13]
 | 6, 4, 3 => [0, 0, 0, 1, 1, 0, 1, 5, 5, 6, 6, 6, 6, 6, 5, 5, 5, 6, 6, 5, 5, 6, 6, 7, 7, 8, 8, 8, 9, 9, 9, 11, 11, 11, 11, 11, 11, 12, 12, 13, 13, 13]
 | 6, 4, 4 => [0, 0, 0, 1, 1, 0, 1, 2, 2, 3, 3, 3, 4, 4, 0, 1, 2, 3, 4, 5, 5, 6, 6, 7, 7, 7, 8, 8, 9, 9, 9, 10, 10, 9, 10, 11, 11, 12, 12, 12, 13, 13]
 | _, _, _ => []
noncomputable def crt2 : Nat → Nat → Nat → List Nat
 | 2, 0, 0 => [0]
 | 3, 0, 0 => [0]
 | 3, 1, 0 => [1]
 | 3, 1, 1 => [1]
 | 4, 0, 0 => [0, 2]
 | 4, 1, 0 => [1, 2]
 | 4, 1, 1 => [1, 3]
 | 4, 2, 0 => [2, 2]
 | 4, 2, 1 => [2, 4]
 | 4, 2, 2 => [2, 4]
 | 5, 0, 0 => [0, 2, 5, 7, 8]
 | 5, 1, 0 => [1, 2, 6, 5, 8]
 | 5, 1, 1 => [1, 3, 6, 9, 11]
 | 5, 2, 0 => [2, 2, 7, 5, 6]
 | 5, 2, 1 => [2, 4, 7, 10, 11]
 | 5, 2, 2 => [2, 4, 7, 10, 12]
 | 5, 3, 0 => [8, 5, 8, 5, 6]
 | 5, 3, 1 => [8, 8, 8, 11, 11]
 | 5, 3, 2 => [5, 8, 8, 11, 13]
 | 5, 3, 3 => [5, 6, 8, 11, 13]
 | 6, 0, 0 => [0, 2, 5, 7, 8, 14, 16, 19, 20, 23, 24, 25, 26, 27]
 | 6, 1, 0 => [1, 2, 6, 5, 8, 15, 16, 21, 22, 19, 19, 20, 26, 27]
 | 6, 1, 1 => [1, 3, 6, 9, 11, 15, 17, 21, 22, 28, 30, 33, 35, 36]
 | 6, 2, 0 => [2, 2, 7, 5, 6, 16, 16, 21, 25, 14, 19, 20, 22, 22]
 | 6, 2, 1 => [2, 4, 7, 10, 11, 16, 18, 21, 25, 29, 30, 34, 33, 36]
 | 6, 2, 2 => [2, 4, 7, 10, 12, 16, 18, 23, 25, 29, 31, 34, 37, 39]
 | 6, 3, 0 => [8, 5, 8, 5, 6, 19, 19, 21, 25, 14, 15, 16, 17, 22]
 | 6, 3, 1 => [8, 8, 8, 11, 11, 19, 21, 21, 25, 30, 30, 35, 33, 34]
 | 6, 3, 2 => [5, 8, 8, 11, 13, 19, 21, 24, 25, 30, 32, 35, 38, 39]
 | 6, 3, 3 => [5, 6, 8, 11, 13, 19, 21, 24, 26, 30, 32, 35, 38, 40]
 | 6, 4, 0 => [20, 20, 20, 14, 15, 20, 20, 22, 25, 14, 15, 16, 17, 18]
 | 6, 4, 1 => [20, 20, 20, 22, 22, 20, 22, 22, 25, 36, 33, 36, 33, 34]
 | 6, 4, 2 => [20, 20, 20, 22, 22, 20, 22, 25, 25, 36, 36, 36, 39, 39]
 | 6, 4, 3 => [14, 15, 20, 22, 22, 20, 22, 25, 27, 33, 36, 36, 39, 41]
 | 6, 4, 4 => [14, 15, 16, 17, 18, 20, 22, 25, 27, 33, 34, 36, 39, 41]
 | _, _, _ => []
theorem crt_ok : ∀ m, m ≤ 6 → ∀ K, K < m - 1 → ∀ p, p ≤ K → (chkL (tr (m - 1)) (fun u v => chkS (cns m K p) (lft K p u) v) (tr m) (crt1 m K p) && chkL (tr m) (fun v u => chkS (cns m K p) v (lft K p u)) (tr (m - 1)) (crt2 m K p)) = true := by decide +kernel
theorem opt_step {ws : List Nat} {K p x : Nat} (hl : ws.length ≤ 6) (h : IsT ws K p) (hx : Opt (nxt ws K p) x) : Opt ws (ws.getD K 0 + ws.getD (K + 1) 0 + x) := by
 have hK := h.hK
 have hn := nxt_len h
 have hc := crt_ok ws.length hl K (by lia) p h.hp
 simp only [Bool.and_eq_true] at hc
 have hm : (nxt ws K p).length = ws.length - 1 := by lia
 obtain ⟨⟨u, hu, eu⟩, hmin⟩ := hx
 rw [hm] at hu hmin
 have low : ∀ v ∈ tr ws.length, ws.getD K 0 + ws.getD (K + 1) 0 + x ≤ dot ws v := by
  intro v hv
  obtain ⟨u, hu, hc⟩ := chkL_ok _ _ hc.1 v hv
  obtain ⟨ix, _, hc⟩ := List.any_eq_true.mp hc
  have h1 := chk_ok (cns_ok h) hc
  have h2 := hmin u hu
  rw [dot_lft h.hp hK (by rw [tr_len _ (by lia) u hu]; lia)] at h1
  lia
 refine ⟨?_, low⟩
 obtain ⟨v, hv, hc⟩ := chkL_ok _ _ hc.2 u hu
 obtain ⟨ix, _, hc⟩ := List.any_eq_true.mp hc
 have h1 := chk_ok (cns_ok h) hc
 rw [dot_lft h.hp hK (by rw [tr_len _ (by lia) u hu]; lia)] at h1
 have h2 := low v hv
 exact ⟨v, hv, by lia⟩
theorem mer_map' {α β : Type} (g : α → β) (K p : Nat) (f : α) (l : List α) : (mer K p f l).map g = mer K p (g f) (l.map g) := by
 simp [mer, List.map_take, List.map_drop]
theorem getD_map {α : Type} (g : α → Nat) (d : α) (h : g d = 0) (l : List α) (i : Nat) : (l.map g).getD i 0 = g (l.getD i d) := by
 rw [List.getD_eq_getElem?_getD, List.getElem?_map, List.getD_eq_getElem?_getD]
 cases l[i]? with
 | none => exact h.symm
 | some x => rfl
theorem dot_set : ∀ (D ds : List Nat) (i : Nat), D.length = ds.length → i < ds.length → dot D (incD ds i) = dot D ds + D.getD i 0
 | [], ds, i, h, hi => by simp at h; lia
 | d :: D, x :: ds, 0, _, _ => by
  show d * (x + 1) + dot D ds = d * x + dot D ds + d
  rw [Nat.mul_add]; lia
 | d :: D, x :: ds, i + 1, h, hi => by
  have := dot_set D ds i (by simpa using h) (by simpa using hi)
  have e : incD (x :: ds) (i + 1) = x :: incD ds i := by simp [incD]
  rw [e]
  show d * x + dot D (incD ds i) = d * x + dot D ds + D.getD i 0
  lia
theorem incD_len' (ds : List Nat) (i : Nat) : (incD ds i).length = ds.length := by simp [incD]
theorem dot_fold (D : List Nat) : ∀ (l ds : List Nat), D.length = ds.length → (∀ i ∈ l, i < ds.length) → dot D (l.foldl incD ds) = dot D ds + (l.map fun i => D.getD i 0).sum ∧ (l.foldl incD ds).length = ds.length
 | [], ds, _, _ => ⟨by simp, rfl⟩
 | i :: l, ds, h, hi => by
  obtain ⟨h1, h2⟩ := dot_fold D l (incD ds i) (by rw [incD_len']; exact h) (fun j hj => by rw [incD_len']; exact hi j (List.mem_cons_of_mem _ hj))
  rw [dot_set D ds i h (hi i (List.mem_cons_self ..))] at h1
  rw [incD_len'] at h2
  exact ⟨by simp only [List.foldl_cons, h1, List.map_cons, List.sum_cons]; lia, h2⟩
theorem way_cost (D : List Nat) : ∀ (path : List (Nat × Nat)) (is : List (List Nat)) (ds : List Nat), Way (is.map fun l => (l.map fun i => D.getD i 0).sum) path → is.length ≤ 6 → is.length = path.length + 1 → D.length = ds.length → (∀ l ∈ is, ∀ i ∈ l, i < ds.length) → ∃ x, Opt (is.map fun l => (l.map fun i => D.getD i 0).sum) x ∧ dot D (runI path is ds) = dot D ds + x ∧ (runI path is ds).length = ds.length
 | [], is, ds, _, _, hl, _, _ => by
  match is, hl with
  | [l], _ => exact ⟨0, opt1 _, rfl, rfl⟩
 | (K, p) :: path, is, ds, ⟨h, _, hw⟩, h6, hl, hD, hi => by
  have hK := h.hK
  have hp := h.hp
  rw [List.length_map] at hK
  simp only [List.length_cons] at hl
  have hn : nxt (is.map fun l => (l.map fun i => D.getD i 0).sum) K p = (mer K p (is.getD K [] ++ is.getD (K + 1) []) is).map fun l => (l.map fun i => D.getD i 0).sum := by
   rw [mer_map', nxt, getD_map _ [] rfl, getD_map _ [] rfl, List.map_append, List.sum_append]
  have m0 : ∀ k, k < is.length → is.getD k [] ∈ is := fun k hk => by
   rw [List.getD_eq_getElem?_getD, List.getElem?_eq_getElem hk]; exact List.getElem_mem hk
  have hf := dot_fold D (is.getD K [] ++ is.getD (K + 1) []) ds hD fun i hm => by
   rcases List.mem_append.mp hm with hm | hm
   ·exact hi _ (m0 K (by lia)) i hm
   ·exact hi _ (m0 (K + 1) hK) i hm
  have hlen := mer_len K p (is.getD K [] ++ is.getD (K + 1) []) is hp hK
  rw [hn] at hw
  obtain ⟨x, h1, h2, h3⟩ := way_cost D path _ ((is.getD K [] ++ is.getD (K + 1) []).foldl incD ds) hw (by lia) (by lia) (by rw [hf.2]; exact hD) (fun l hm i hi2 => by
   rw [hf.2]
   simp only [mer, List.mem_append, List.mem_singleton] at hm
   rcases hm with ((hm | rfl) | hm) | hm
   ·exact hi l (List.mem_of_mem_take hm) i hi2
   ·rcases List.mem_append.mp hi2 with hm | hm
    ·exact hi _ (m0 K (by lia)) i hm
    ·exact hi _ (m0 (K + 1) hK) i hm
   ·exact hi l (List.mem_of_mem_take (List.mem_of_mem_drop hm)) i hi2
   ·exact hi l (List.mem_of_mem_drop hm) i hi2)
  rw [← hn] at h1
  refine ⟨_, opt_step (by rw [List.length_map]; exact h6) h h1, ?_, by rw [← hf.2]; exact h3⟩
  show dot D (runI path _ _) = _
  rw [h2, hf.1, getD_map _ [] rfl, getD_map _ [] rfl, List.map_append, List.sum_append]
  lia
theorem Opt.uniq {ws : List Nat} {x y : Nat} (h : Opt ws x) (k : Opt ws y) : x = y := by
 obtain ⟨⟨v, hv, rfl⟩, h⟩ := h
 obtain ⟨⟨u, hu, rfl⟩, k⟩ := k
 exact Nat.le_antisymm (h u hu) (k v hv)
noncomputable def cnsV (R : List (List Nat)) (K p : Nat) : List (Bool × List Nat × List Nat) :=
 (List.range K).map (fun i => (true, R.getD (i + 2) [], R.getD i [])) ++ ((if K + 2 < R.length then [(false, R.getD K [], R.getD (K + 2) [])] else []) ++ ((((List.range K).filter (fun j => p.ble j)).map fun j => (true, R.getD j [], vadd (R.getD K []) (R.getD (K + 1) []))) ++ (match p with | 0 => [] | q + 1 => [(false, vadd (R.getD K []) (R.getD (K + 1) []), R.getD q [])])))
noncomputable def cnsW : List (List Nat) → List (Nat × Nat) → List (Bool × List Nat × List Nat)
 | _, [] => []
 | R, (K, p) :: path => cnsV R K p ++ cnsW (mer K p (vadd (R.getD K []) (R.getD (K + 1) [])) R) path
noncomputable def Tru (D : List Nat) (c : Bool × List Nat × List Nat) : Prop := dot D c.2.1 ≤ dot D c.2.2 ∧ (c.1 = true → dot D c.2.1 < dot D c.2.2)
theorem cnsV_ok {D : List Nat} {R : List (List Nat)} {K p : Nat} (h : IsT (R.map (dot D)) K p) : ∀ c ∈ cnsV R K p, Tru D c := by
 have g := fun i => getD_map (dot D) [] (dot_nil D) R i
 intro c hc
 simp only [cnsV, List.mem_append, List.mem_map, List.mem_range, List.mem_filter] at hc
 rcases hc with ⟨i, hi, rfl⟩ | hc | ⟨j, ⟨hj, hpj⟩, rfl⟩ | hc
 ·have := h.hk i hi
  rw [g, g] at this
  exact ⟨Nat.le_of_lt this, fun _ => this⟩
 ·by_cases hl : K + 2 < R.length
  ·simp only [hl, if_true, List.mem_singleton] at hc
   subst hc
   have := h.hk2 (by rw [List.length_map]; exact hl)
   rw [g, g] at this
   exact ⟨this, fun h => nomatch h⟩
  ·simp [hl] at hc
 ·have := h.hb j (Nat.le_of_ble_eq_true hpj) hj
  rw [g, g, g, ← dot_vadd] at this
  exact ⟨Nat.le_of_lt this, fun _ => this⟩
 ·cases p with
  | zero => simp at hc
  | succ q =>
   simp only [List.mem_singleton] at hc
   subst hc
   have := h.ha q rfl
   rw [g, g, g, ← dot_vadd] at this
   exact ⟨this, fun h => nomatch h⟩
theorem cnsW_ok (D : List Nat) : ∀ (path : List (Nat × Nat)) (R : List (List Nat)), Way (R.map (dot D)) path → ∀ c ∈ cnsW R path, Tru D c
 | [], R, _, c, hc => nomatch hc
 | (K, p) :: path, R, ⟨h, _, hw⟩, c, hc => by
  rcases List.mem_append.mp hc with hc | hc
  ·exact cnsV_ok h c hc
  ·refine cnsW_ok D path _ ?_ c hc
   rw [mer_map', dot_vadd]
   rw [nxt, getD_map _ [] (dot_nil D), getD_map _ [] (dot_nil D)] at hw
   exact hw
noncomputable def rows0 (m : Nat) : List (List Nat) := (List.range m).map fun i => eU i m
noncomputable def pos0 (m : Nat) : List (Bool × List Nat × List Nat) := (List.range m).map fun i => (true, [], eU i m)
theorem rows0_eq (ws : List Nat) : (rows0 ws.length).map (dot ws) = ws := by
 apply List.ext_getElem
 ·simp [rows0]
 ·intro i h1 h2
  simp [rows0, dot_eU, List.getD_eq_getElem?_getD, h2]
theorem pos0_ok {ws : List Nat} (h : ∀ x ∈ ws, 0 < x) : ∀ c ∈ pos0 ws.length, Tru ws c := by
 intro c hc
 simp only [pos0, List.mem_map, List.mem_range] at hc
 obtain ⟨i, hi, rfl⟩ := hc
 have : 0 < ws.getD i 0 := by
  rw [List.getD_eq_getElem?_getD, List.getElem?_eq_getElem hi]
  exact h _ (List.getElem_mem hi)
 unfold Tru
 simp only [dot_eU, dot_nil]
 lia
noncomputable def cmbW (cs : List (Bool × List Nat × List Nat)) (ix : List Nat) : Bool × List Nat × List Nat :=
 ix.foldr (fun i a => let c := cs.getD i (false, [], []); (c.1 || a.1, vadd c.2.1 a.2.1, vadd c.2.2 a.2.2)) (false, [], [])
theorem cmbW_ok {D : List Nat} {cs : List (Bool × List Nat × List Nat)} (h : ∀ c ∈ cs, Tru D c) : ∀ ix, Tru D (cmbW cs ix)
 | [] => ⟨Nat.le_refl _, fun h => nomatch h⟩
 | i :: ix => by
  have ih := cmbW_ok h ix
  have hc : Tru D (cs.getD i (false, [], [])) := by
   rw [List.getD_eq_getElem?_getD]
   cases e : cs[i]? with
   | none => exact ⟨Nat.le_refl _, fun h => nomatch h⟩
   | some c => exact h c (List.mem_of_getElem? e)
  unfold Tru at *
  show dot D (vadd _ (cmbW cs ix).2.1) ≤ dot D (vadd _ (cmbW cs ix).2.2) ∧ ((_ || (cmbW cs ix).1) = true → _)
  rw [dot_vadd, dot_vadd]
  refine ⟨by lia, fun hb => ?_⟩
  show dot D (vadd _ (cmbW cs ix).2.1) < dot D (vadd _ (cmbW cs ix).2.2)
  rw [dot_vadd, dot_vadd]
  rcases Bool.or_eq_true _ _ |>.mp hb with hb | hb
  ·have := hc.2 hb; lia
  ·have := ih.2 hb; lia
noncomputable def noWay (m : Nat) (t : List (Nat × Nat) × List Nat) : Bool :=
 let c := cmbW (pos0 m ++ cnsW (rows0 m) t.1) t.2
 c.1 && vle c.2.2 c.2.1
theorem way_pre : ∀ (a b : List (Nat × Nat)) (ws : List Nat), Way ws (a ++ b) → Way ws a
 | [], _, _, _ => trivial
 | (K, p) :: a, b, ws, ⟨h, hg, hw⟩ => ⟨h, hg, way_pre a b _ hw⟩
theorem noWay_ok {ws : List Nat} {t : List (Nat × Nat) × List Nat} {b : List (Nat × Nat)} (hp : ∀ x ∈ ws, 0 < x) (h : noWay ws.length t = true) (hw : Way ws (t.1 ++ b)) : False := by
 have hw := way_pre _ _ _ hw
 simp only [noWay, Bool.and_eq_true] at h
 have hc := cmbW_ok (D := ws) (cs := pos0 ws.length ++ cnsW (rows0 ws.length) t.1) (fun c hc => by
  rcases List.mem_append.mp hc with hc | hc
  ·exact pos0_ok hp c hc
  ·exact cnsW_ok ws t.1 (rows0 ws.length) (by rw [rows0_eq]; exact hw) c hc) t.2
 have h1 := hc.2 h.1
 have h2 := dot_vle ws _ _ h.2
 lia
noncomputable def inf42 : List (List (Nat × Nat) × List Nat) := [([(2, 0), (0, 0)], [7, 8]), ([(2, 1), (0, 0)], [6, 7, 8]), ([(1, 0), (1, 1)], [4, 5, 8]), ([(2, 0), (1, 1)], [4, 5, 9])]
noncomputable def inf52 : List (List (Nat × Nat) × List Nat) := [([(3, 1), (1, 1)], [9, 12]), ([(3, 2), (1, 1)], [8, 9, 11]), ([(1, 0), (1, 1)], [5, 6, 10]), ([(2, 0), (2, 2)], [6, 7, 8, 12]), ([(2, 0), (2, 1)], [6, 7, 13]), ([(3, 0), (1, 1)], [5, 12]), ([(2, 0), (1, 1)], [5, 6, 12]), ([(3, 0), (0, 0)], [9, 11]), ([(3, 1), (0, 0)], [8, 10, 11]), ([(2, 0), (0, 0)], [9, 10]), ([(2, 1), (0, 0)], [8, 9, 10]), ([(3, 1), (1, 0)], [9, 12]), ([(3, 2), (1, 0)], [8, 9, 11]), ([(3, 0), (1, 0)], [5, 12]), ([(3, 0), (2, 1)], [6, 7, 14]), ([(3, 0), (2, 2)], [6, 7, 8, 13]), ([(3, 3), (0, 0)], [5, 9]), ([(2, 1), (2, 2)], [6, 7, 12]), ([(3, 1), (2, 2)], [6, 7, 13])]
noncomputable def inf53 : List (List (Nat × Nat) × List Nat) := [([(3, 2), (0, 0), (0, 0)], [5, 11]), ([(3, 3), (1, 0), (0, 0)], [1, 8, 12]), ([(3, 3), (1, 1), (0, 0)], [5, 8, 12])]
noncomputable def inf62 : List (List (Nat × Nat) × List Nat) := [([(4, 2), (2, 2)], [11, 15]), ([(4, 3), (2, 2)], [10, 11, 14]), ([(3, 1), (1, 1)], [11, 14]), ([(3, 2), (1, 1)], [10, 11, 13]), ([(4, 1), (1, 1)], [11, 15]), ([(4, 2), (1, 1)], [10, 12, 14]), ([(1, 0), (1, 1)], [6, 7, 11]), ([(2, 0), (2, 2)], [7, 8, 9, 14]), ([(4, 0), (0, 0)], [11, 14]), ([(4, 1), (0, 0)], [10, 13, 14]), ([(3, 0), (3, 3)], [8, 9, 11, 16]), ([(3, 1), (3, 3)], [8, 9, 10, 16]), ([(4, 1), (1, 0)], [11, 15]), ([(4, 2), (1, 0)], [10, 12, 14]), ([(4, 2), (2, 1)], [11, 15]), ([(4, 3), (2, 1)], [10, 11, 14]), ([(2, 0), (0, 0)], [10, 11]), ([(2, 1), (0, 0)], [9, 10, 11]), ([(3, 0), (0, 0)], [11, 13]), ([(3, 1), (0, 0)], [10, 12, 13]), ([(3, 1), (1, 0)], [11, 14]), ([(3, 2), (1, 0)], [10, 11, 13]), ([(3, 0), (1, 1)], [6, 14]), ([(4, 1), (2, 2)], [7, 16]), ([(4, 3), (0, 0)], [6, 12]), ([(2, 0), (2, 1)], [7, 8, 15]), ([(2, 1), (2, 2)], [7, 8, 14]), ([(3, 0), (2, 1)], [7, 8, 17]), ([(3, 0), (2, 2)], [7, 8, 10, 16]), ([(3, 0), (3, 1)], [8, 9, 18]), ([(3, 0), (3, 2)], [8, 9, 10, 17]), ([(3, 1), (3, 2)], [8, 9, 17]), ([(4, 1), (2, 1)], [7, 16]), ([(4, 0), (1, 1)], [6, 15]), ([(4, 0), (2, 2)], [7, 16]), ([(4, 2), (2, 0)], [11, 15]), ([(4, 3), (2, 0)], [10, 11, 14]), ([(2, 0), (1, 1)], [6, 7, 13]), ([(4, 0), (1, 0)], [6, 15]), ([(4, 0), (2, 1)], [7, 16]), ([(3, 0), (1, 0)], [6, 14]), ([(4, 0), (2, 0)], [7, 16]), ([(4, 1), (2, 0)], [7, 16])]
noncomputable def inf63 : List (List (Nat × Nat) × List Nat) := [([(4, 2), (0, 0), (1, 1)], [11, 15]), ([(4, 3), (1, 1), (1, 1)], [7, 16]), ([(1, 0), (2, 1), (1, 1)], [6, 7, 16]), ([(1, 0), (2, 1), (2, 1)], [6, 7, 11, 17]), ([(1, 0), (2, 2), (1, 1)], [6, 7, 15]), ([(1, 0), (3, 1), (2, 1)], [6, 7, 18]), ([(1, 0), (3, 3), (1, 1)], [6, 7, 15]), ([(2, 0), (3, 2), (2, 1)], [7, 8, 19]), ([(2, 0), (3, 2), (2, 2)], [7, 8, 9, 18]), ([(2, 0), (3, 3), (2, 1)], [7, 8, 18]), ([(2, 0), (3, 3), (2, 2)], [7, 8, 9, 17]), ([(3, 2), (0, 0), (0, 0)], [6, 13]), ([(4, 2), (0, 0), (0, 0)], [6, 14]), ([(4, 2), (0, 0), (1, 0)], [11, 15]), ([(4, 3), (1, 0), (0, 0)], [1, 11, 15]), ([(4, 3), (1, 0), (1, 0)], [6, 10, 11, 16]), ([(4, 3), (1, 1), (0, 0)], [6, 11, 15]), ([(4, 3), (1, 1), (1, 0)], [7, 16])]
theorem inf62_ok : ∀ t ∈ inf62, noWay 6 t = true := by decide +kernel
theorem inf63_ok : ∀ t ∈ inf63, noWay 6 t = true := by decide +kernel
theorem inf52_ok : ∀ t ∈ inf52, noWay 5 t = true := by decide +kernel
theorem inf53_ok : ∀ t ∈ inf53, noWay 5 t = true := by decide +kernel
theorem inf42_ok : ∀ t ∈ inf42, noWay 4 t = true := by decide +kernel
noncomputable def hasW (l : List (List (Nat × Nat) × List Nat)) (s : List (Nat × Nat)) : Bool := l.any fun t => t.1 == s
theorem hasW_no {l : List (List (Nat × Nat) × List Nat)} {s b : List (Nat × Nat)} {ws : List Nat} (hp : ∀ x ∈ ws, 0 < x) (hl : ∀ t ∈ l, noWay ws.length t = true) (hw : Way ws (s ++ b)) : hasW l s = false := by
 cases e : hasW l s with
 | false => rfl
 | true =>
  simp only [hasW, List.any_eq_true, beq_iff_eq] at e
  obtain ⟨t, ht, rfl⟩ := e
  exact (noWay_ok hp (hl t ht) hw).elim
noncomputable def pushB : List Nat → Nat → Bool
 | [], d => d.ble 6
 | x :: st, d => d.ble 6 && (!(x.beq d) || (Nat.blt 0 d && pushB st (d - 1)))
noncomputable def pileB : List Nat → List Nat → Bool
 | _, [] => true
 | st, d :: ds => Nat.blt 0 d && pushB st d && pileB (pushD st d) ds
theorem pushB_ok : ∀ (st : List Nat) (d : Nat), pushB st d = true → pushOk st d
 | [], d, h => Nat.le_of_ble_eq_true h
 | x :: st, d, h => by
  simp only [pushB, Bool.and_eq_true, Bool.or_eq_true, Bool.not_eq_true'] at h
  refine ⟨Nat.le_of_ble_eq_true h.1, fun e => ?_⟩
  rcases h.2 with h2 | h2
  ·subst e; rw [Nat.beq_refl] at h2; exact absurd h2 (by decide)
  ·exact ⟨Nat.le_of_ble_eq_true h2.1, pushB_ok st _ h2.2⟩
theorem pileB_ok : ∀ (ds st : List Nat), pileB st ds = true → pileOk st ds
 | [], _, _ => trivial
 | d :: ds, st, h => by
  simp only [pileB, Bool.and_eq_true] at h
  exact ⟨Nat.le_of_ble_eq_true h.1.1, pushB_ok st d h.1.2, pileB_ok ds _ h.2⟩
noncomputable def prs (m : Nat) : List (Nat × Nat) := (List.range (m - 1)).flatMap fun K => (List.range (K + 1)).map fun p => (K, p)
noncomputable def is0 : List (List Nat) := [[0], [1], [2], [3], [4], [5]]
noncomputable def ds0 : List Nat := [0, 0, 0, 0, 0, 0]
noncomputable def endB (path : List (Nat × Nat)) : Bool :=
 let ds := runI path is0 ds0
 pileB [] ds && (ds.foldl pushD [] == [0])
noncomputable def allB : Bool := (prs 6).all fun q1 => (prs 5).all fun q2 => hasW inf62 [q1, q2] || (prs 4).all fun q3 => hasW inf52 [q2, q3] || (hasW inf63 [q1, q2, q3] || (prs 3).all fun q4 => hasW inf42 [q3, q4] || (hasW inf53 [q2, q3, q4] || (prs 2).all fun q5 => endB [q1, q2, q3, q4, q5]))
theorem allB_ok : allB = true := by decide +kernel
theorem mem_prs {ws : List Nat} {K p m : Nat} (h : IsT ws K p) (hl : ws.length = m) : (K, p) ∈ prs m := by
 have := h.hK
 have := h.hp
 simp only [prs, List.mem_flatMap, List.mem_map, List.mem_range]
 exact ⟨K, by lia, p, by lia, rfl⟩
theorem way_end {ws : List Nat} {path : List (Nat × Nat)} (hp : ∀ x ∈ ws, 0 < x) (hl : ws.length = 6) (h5 : path.length = 5) (hw : Way ws path) : endB path = true := by
 match path, h5, hw with
 | [(a, a'), (b, b'), (c, c'), (d, d'), (e, e')], _, ⟨t1, g1, t2, g2, t3, g3, t4, g4, t5, g5, _⟩ =>
  have l1 := nxt_len t1
  have l2 := nxt_len t2
  have l3 := nxt_len t3
  have l4 := nxt_len t4
  have p1 := nxt_pos t1
  have p2 := nxt_pos t2
  have w4 : Way _ [(d, d'), (e, e')] := ⟨t4, g4, t5, g5, trivial⟩
  have w3 : Way _ [(c, c'), (d, d'), (e, e')] := ⟨t3, g3, w4⟩
  have w2 : Way _ [(b, b'), (c, c'), (d, d'), (e, e')] := ⟨t2, g2, w3⟩
  have w1 : Way ws [(a, a'), (b, b'), (c, c'), (d, d'), (e, e')] := ⟨t1, g1, w2⟩
  have n1 := hasW_no (l := inf62) (s := [(a, a'), (b, b')]) (b := [(c, c'), (d, d'), (e, e')]) hp (by rw [hl]; exact inf62_ok) w1
  have n2 := hasW_no (l := inf63) (s := [(a, a'), (b, b'), (c, c')]) (b := [(d, d'), (e, e')]) hp (by rw [hl]; exact inf63_ok) w1
  have n3 := hasW_no (l := inf52) (s := [(b, b'), (c, c')]) (b := [(d, d'), (e, e')]) p1 (by rw [show (nxt ws a a').length = 5 by lia]; exact inf52_ok) w2
  have n4 := hasW_no (l := inf53) (s := [(b, b'), (c, c'), (d, d')]) (b := [(e, e')]) p1 (by rw [show (nxt ws a a').length = 5 by lia]; exact inf53_ok) w2
  have n5 := hasW_no (l := inf42) (s := [(c, c'), (d, d')]) (b := [(e, e')]) p2 (by rw [show (nxt (nxt ws a a') b b').length = 4 by lia]; exact inf42_ok) w3
  have all := allB_ok
  unfold allB at all
  have a1 := List.all_eq_true.mp (List.all_eq_true.mp all _ (mem_prs t1 hl)) _ (mem_prs t2 (m := 5) (by lia))
  rw [n1, Bool.false_or] at a1
  have a2 := List.all_eq_true.mp a1 _ (mem_prs t3 (m := 4) (by lia))
  rw [n2, n3, Bool.false_or, Bool.false_or] at a2
  have a3 := List.all_eq_true.mp a2 _ (mem_prs t4 (m := 3) (by lia))
  rw [n4, n5, Bool.false_or, Bool.false_or] at a3
  exact List.all_eq_true.mp a3 _ (mem_prs t5 (m := 2) (by lia))
theorem gw (D : List Nat) (hl : D.length = 6) (hp : ∀ x ∈ D, 0 < x) : ∃ ds', TurnsTo 5 D is0 ds0 ds' ∧ ds'.length = 6 ∧ pileOk [] ds' ∧ ds'.foldl pushD [] = [0] ∧ Opt D (dot D ds') := by
 obtain ⟨path, h5, hw⟩ := way_ex 5 D hp (by lia)
 have he := way_end hp hl h5 hw
 simp only [endB, Bool.and_eq_true, beq_iff_eq] at he
 have ht := way_turns path D is0 ds0 hw (by rw [hl]; rfl)
 have eD : (is0.map fun l => (l.map fun i => D.getD i 0).sum) = D := by
  match D, hl with
  | [a, b, c, d, e, f], _ => rfl
 obtain ⟨x, h1, h2, h3⟩ := way_cost D path is0 ds0 (by rw [eD]; exact hw) (by decide) (by rw [h5]; rfl) (by rw [hl]; rfl) (by decide)
 rw [eD] at h1
 have e0 : dot D ds0 = 0 := by
  match D, hl with
  | [a, b, c, d, e, f], _ => rfl
 rw [e0, Nat.zero_add] at h2
 rw [h5] at ht
 exact ⟨_, ht, h3, pileB_ok _ _ he.1, he.2, by rw [h2]; exact h1⟩
theorem ll_opt (v : Nat → Nat) : Opt [v 0, v 1, v 2, v 3, v 4, v 5] (ll14 v) := by
 have h0 : Opt [v 0, v 1] (ll0 v) := opt2 rfl
 have h1 : Opt [v 1, v 2] (ll1 v) := opt2 rfl
 have h2 : Opt [v 2, v 3] (ll2 v) := opt2 rfl
 have h3 : Opt [v 3, v 4] (ll3 v) := opt2 rfl
 have h4 : Opt [v 4, v 5] (ll4 v) := opt2 rfl
 have h5 : Opt [v 0, v 1, v 2] (ll5 v) := opt3 h1 h0 rfl
 have h6 : Opt [v 1, v 2, v 3] (ll6 v) := opt3 h2 h1 rfl
 have h7 : Opt [v 2, v 3, v 4] (ll7 v) := opt3 h3 h2 rfl
 have h8 : Opt [v 3, v 4, v 5] (ll8 v) := opt3 h4 h3 rfl
 have h9 : Opt [v 0, v 1, v 2, v 3] (ll9 v) := opt4 h6 h0 h2 h5 rfl
 have h10 : Opt [v 1, v 2, v 3, v 4] (ll10 v) := opt4 h7 h1 h3 h6 rfl
 have h11 : Opt [v 2, v 3, v 4, v 5] (ll11 v) := opt4 h8 h2 h4 h7 rfl
 have h12 : Opt [v 0, v 1, v 2, v 3, v 4] (ll12 v) := opt5 h10 h0 h7 h5 h3 h9 rfl
 have h13 : Opt [v 1, v 2, v 3, v 4, v 5] (ll13 v) := opt5 h11 h1 h8 h6 h4 h10 rfl
 exact opt6 h13 h0 h11 h5 h8 h9 h4 h12 rfl
noncomputable def EndL (z1 : Z1) (r : Led) : Prop := (z1.sc, listO z1.vs z1.ep) ∈ r ∧ (∃ vs, (158, tabO vs) ∈ r) ∧ ∃ vs, (172, tabO vs) ∈ r
theorem EndL.app {z1 : Z1} {r : Led} (a : Led) (h : EndL z1 r) : EndL z1 (a ++ r) :=
 ⟨List.mem_append_right _ h.1, h.2.1.imp fun _ h => List.mem_append_right _ h, h.2.2.imp fun _ h => List.mem_append_right _ h⟩
section
variable {h₀ : HS} {w : World} {b2 b lay : Bool} {z1 : Z1} {z2 : Z2} {z3 : Z3} {ps : Nat → SX} {z4 : Z4} {z5 : Z5} {z6 : Z6} {k : Nat} {pq : Nat → SX} {z7 : Z7} {sm : Nat} {pr : Nat → SX} {z8 : Z8} {pk q1 q2 q3 pa pd pe tp : Nat} {vd vo vb : Value} (O : (B0 (wf (wf2 w b2) b) h₀).Ok) {A₀ : Around} (hA : AOk A₀ 400) (hsz : 186 ≤ h₀.h.objs.size) {R : Result → Shared → Prop} {dr : Drawn} {os : OsState}
 (fin : ∀ (h' : Heap) (n' t' : Nat) (r' : Led), EndL z1 r' → (∃ vs, (121, tabO vs) ∈ r') → St (B0 (wf (wf2 w b2) b) h₀) h' r' n' → R (.ok (.ret (.bool true))) (sh h' [.finished, .finished, .finished] dr t' os))
include O hA fin
theorem ch9 (cx u1 u2 qk : Nat) (r : Led) (hr : z8.r = (pd + 186, pdO (wf (wf2 w b2) b) qk) :: (tp + 186, tupO [.str (S []) u1, .str (S [46]) u2]) :: (121, tabO [.int 94 0, .int 32 0, .ref (cx + 186)]) :: r) (hE : EndL z1 r) {h : Heap} (S₀ : St (B0 (wf (wf2 w b2) b) h₀) h ((z1.n + 186, lawG (wf (wf2 w b2) b) lay z1 z2 z3 z7 22 [en (wf (wf2 w b2) b) c_pile pk (.ref (pa + 186)), en (wf (wf2 w b2) b) c_depth q1 vd, en (wf (wf2 w b2) b) [111, 110, 101] q2 vo, en (wf (wf2 w b2) b) c_below q3 vb]) :: (pa + 186, rowQ (pd + 186) [.ref (tp + 186)] pe) :: z8.r) (z8.n + 186))
  {κ : RK} (hκ : κ = kt7 (wf2 w b2) b z1.n) (hl : κ.rlen = 0 + 1) (hd : depOk A₀ κ) :
  endK (B0 (wf (wf2 w b2) b) h₀) A₀ R κ (.ok .next) (sh h [.finished, .finished] dr z8.t os) := by
 refine L8_t O (hA.le (by decide)) hκ hl hd S₀ fun κ8 hκ8 hd8 hl8 hn8 h1 t1 S1 => ?_
 rw [hr] at S1
 refine str1c O (AOk.over (d := 170) (hA.le (by rw [hn8]; decide)) hd8) (by decide) S1 fun h2 n2 t2 cx2 tq S2 => ?_
 refine L9_t (z9 := ⟨n2, t2, tq, _⟩) O (hA.le (by decide)) hκ8 hl8 hd8 S2 fun h3 t3 S3 => ?_
 exact fin h3 _ t3 _ (EndL.app [_, _, _, _] hE) ⟨_, .tail _ (.tail _ (.tail _ (.head _)))⟩ S3
end
theorem prodL_sum : ∀ wl dl : List (Nat × Nat), (prodL wl dl).sum = dot (wl.map (·.1)) (dl.map (·.1))
 | [], dl => by cases dl <;> rfl
 | w :: wl, [] => rfl
 | w :: wl, d :: dl => by
  have := prodL_sum wl dl
  simp only [prodL, List.zipWith_cons_cons, List.sum_cons, List.map_cons, dot] at this ⊢
  lia
theorem pushOk_le : ∀ (st : List Nat) (d : Nat), pushOk st d → d ≤ 6
 | [], _, h => h
 | _ :: _, _, h => h.1
theorem pileOk_le : ∀ (ds st : List Nat), pileOk st ds → ∀ d ∈ ds, d ≤ 6
 | x :: ds, st, h, d, hd => by
  rcases List.mem_cons.mp hd with rfl | hd
  ·exact pushOk_le _ _ h.2.1
  ·exact pileOk_le ds _ h.2.2 d hd
theorem prodL_le {wl dl : List (Nat × Nat)} (hw : ∀ p ∈ wl, p.1 ≤ 100) (hd : ∀ p ∈ dl, p.1 ≤ 6) : ∀ x ∈ prodL wl dl, x ≤ 1000 := by
 intro x hx
 obtain ⟨i, hi, rfl⟩ := List.mem_iff_getElem.mp hx
 simp only [prodL, List.length_zipWith, Nat.lt_min] at hi
 simp only [prodL, List.getElem_zipWith]
 have h1 := hw _ (List.getElem_mem hi.1)
 have h2 := hd _ (List.getElem_mem hi.2)
 exact Nat.le_trans (Nat.mul_le_mul h1 h2) (by decide)
section
variable {h₀ : HS} {w : World} {b2 b lay : Bool} {z1 : Z1} {z2 : Z2} {z3 : Z3} {ps : Nat → SX} {z4 : Z4} {z5 : Z5} {z6 : Z6} {k : Nat} {pq : Nat → SX} (O : (B0 (wf (wf2 w b2) b) h₀).Ok) {A₀ : Around} (hA : AOk A₀ 400) (hsz : 186 ≤ h₀.h.objs.size) {R : Result → Shared → Prop} {dr : Drawn} {os : OsState}
 (fin : ∀ (h' : Heap) (n' t' : Nat) (r' : Led), EndL z1 r' → (∃ vs, (121, tabO vs) ∈ r') → St (B0 (wf (wf2 w b2) b) h₀) h' r' n' → R (.ok (.ret (.bool true))) (sh h' [.finished, .finished, .finished] dr t' os))
noncomputable def z7of (w : World) (z1 : Z1) (z2 : Z2) (z3 : Z3) (y : ZT) (zk : ZK) (qs : List Pc) (wl : PL) (J E1 : Led) (t : Nat) : Z7 :=
 { n := y.n, t := t, de := y.de, d0 := y.d0, ti := 0, tv := 0, f := ⟨18, y.kt, y.k1, y.k2, y.k3, y.k4, y.k5, y.k6, y.k7, y.kv, y.v3, y.v4, .ref (y.ke + 186), y.v7, []⟩, g := ⟨y.k8, y.k9, y.k10, y.k11, y.k12, y.v8, y.v9, y.v10, y.v11⟩, v1 := y.v1, v2 := y.v2, v5 := y.v5, v12 := y.v12, wl := wl, dl := y.dl, r := (z1.n + 188, cellO (.ref (y.we + 186))) :: (z1.n + 190, cellO y.bv) :: (y.we + 186, listO (intV y.wl) y.wep) :: (y.ke + 186, listO (intV y.kl) y.kep) :: (z3.n + 210, rowO (z3.n + 209) (refV (qs.map (·.a))) y.rep) :: (z3.n + 209, rowDO w z3) :: (y.c1 + 186, codeO y.v0 y.q y.ctq y.rs) :: (158, tabO [.int 108 0, .int 4 0, .ref (y.c1 + 186), .int 112 0, .int 13 0, .ref (y.c2 + 186)]) :: (z2.n + 186, namesO z2) :: (tbK zk ++ (qs.map Pc.led ++ (J ++ E1))) }
theorem ch8_perm (fr ro pd x dp t121 : Addr × Obj) (A T Q J E2 : Led) : (fr :: ro :: pd :: x :: t121 :: dp :: (A ++ (T ++ (Q ++ (J ++ E2))))).Perm (fr :: ro :: pd :: x :: dp :: (A ++ (T ++ (Q ++ (J ++ (t121 :: E2)))))) :=
 perm_of [[fr], [ro], [pd], [x], [dp], A, T, Q, J, [t121], E2] [0, 1, 2, 3, 9, 4, 5, 6, 7, 8, 10] [0, 1, 2, 3, 4, 5, 6, 7, 8, 9, 10] (by decide)
theorem ch7_perm (fr c8 c9 c10 we ke de ro rd c1 t158 nm WE c7 : Addr × Obj) (T Q J E1 : Led) :
  (fr :: c7 :: WE :: c9 :: de :: c8 :: c10 :: we :: ke :: ro :: rd :: c1 :: t158 :: nm :: (T ++ (Q ++ (J ++ E1)))).Perm (fr :: c8 :: c9 :: c10 :: we :: ke :: de :: ro :: rd :: c1 :: t158 :: nm :: (T ++ (Q ++ (J ++ (WE :: c7 :: E1))))) :=
 perm_of [[fr], [c8], [c9], [c10], [we], [ke], [de], [ro], [rd], [c1], [t158], [nm], T, Q, J, [WE], [c7], E1] [0, 16, 15, 2, 6, 1, 3, 4, 5, 7, 8, 9, 10, 11, 12, 13, 14, 17] [0, 1, 2, 3, 4, 5, 6, 7, 8, 9, 10, 11, 12, 13, 14, 15, 16, 17] (by decide)
include O hA hsz fin
omit hsz in
theorem ch8 {z7 : Z7} {pk q1 q2 q3 pa pd pe n t qk xa xu xv cx : Nat} {vd vo vb : Value} (A T Q J E2 : Led) (hr : z7.r = A ++ (T ++ (Q ++ (J ++ ((121, tabO [.int 94 0, .int 32 0, .ref (cx + 186)]) :: E2))))) (hE : EndL z1 (dpL z7 :: (A ++ (T ++ (Q ++ (J ++ E2)))))) {h : Heap}
  (S₀ : St (B0 (wf (wf2 w b2) b) h₀) h ((z1.n + 186, pfr (wf (wf2 w b2) b) lay z1 z2 z3 z7 pa pk q1 q2 q3 vd vo vb) :: (pa + 186, rowO (pd + 186) (refP [⟨xa, xu, xv, 0⟩]) pe) :: (pd + 186, pdO (wf (wf2 w b2) b) qk) :: ([(⟨xa, xu, xv, 0⟩ : PI)].map PI.led ++ dpL z7 :: z7.r)) (n + 186)) {κ : RK} (hκ : κ = kt7 (wf2 w b2) b z1.n) (hl : κ.rlen = 0 + 1) (hd : depOk A₀ κ) :
  endK (B0 (wf (wf2 w b2) b) h₀) A₀ R κ (.ok .next) (sh h [.finished, .finished] dr t os) := by
 rw [hr] at S₀
 exact ch9 (z8 := ⟨n, t, 0, _⟩) O hA fin cx xu xv qk _ rfl hE (S₀.perm (ch8_perm _ _ _ _ _ _ A T Q J E2)) hκ hl hd
theorem ch7a {z7 : Z7} (A T Q J E2 : Led) (cx : Nat) (hr : z7.r = A ++ (T ++ (Q ++ (J ++ ((121, tabO [.int 94 0, .int 32 0, .ref (cx + 186)]) :: E2))))) (hE : EndL z1 (A ++ (T ++ (Q ++ (J ++ E2)))))
  (hwl : z7.wl.length = 6) (hw : ∀ p ∈ z7.wl, p.1 ≤ 100) (hdl : z7.dl.length = 6) (hok : pileOk [] (z7.dl.map (·.1))) (hfd : (z7.dl.map (·.1)).foldl pushD [] = [0]) (hopt : Opt (z7.wl.map (·.1)) (dot (z7.wl.map (·.1)) (z7.dl.map (·.1)))) {h : Heap}
  (S₀ : St (B0 (wf (wf2 w b2) b) h₀) h ((z1.n + 186, lawG (wf (wf2 w b2) b) lay z1 z2 z3 z7 18 []) :: (z1.n + 1 + 186, cellO (.ref (z3.n + 1 + 186))) :: (z3.n + 1 + 186, listO (intV z7.wl) 6) :: (z1.n + 3 + 186, cellO (.ref (z7.de + 186))) :: (z7.de + 186, listO (intV z7.dl) z7.d0) :: z7.r) (z7.n + 186)) {κ : RK} (hκ : κ = kt6 (wf2 w b2) b z1.n) (hl : κ.rlen = 0 + 1) (hn : κ.len = 1) (hd : depOk A₀ κ) :
  endK (B0 (wf (wf2 w b2) b) h₀) A₀ R κ (.ok .next) (sh h [.finished, .finished] dr z7.t os) := by
 obtain ⟨v, hvd⟩ : ∃ v : Nat → Nat, v = fun i => (z7.wl.map (·.1)).getD i 0 := ⟨_, rfl⟩
 have hv : ∀ i, i < 6 → (z7.wl.map (·.1))[i]? = some (v i) := fun i hi => by
  rw [hvd]
  show _ = some ((z7.wl.map (·.1)).getD i 0)
  rw [List.getD_eq_getElem?_getD, List.getElem?_eq_getElem (by rw [List.length_map, hwl]; exact hi)]; rfl
 have hvb : ∀ i, v i ≤ 1000 := fun i => by
  rw [hvd]
  show (z7.wl.map (·.1)).getD i 0 ≤ 1000
  rw [List.getD_eq_getElem?_getD, List.getElem?_map]
  cases e : z7.wl[i]? with
  | none => exact Nat.zero_le _
  | some p => exact Nat.le_trans (hw p (List.mem_of_getElem? e)) (by decide)
 have hsm : dot (z7.wl.map (·.1)) (z7.dl.map (·.1)) = ll14 v := by
  refine hopt.uniq ?_
  have := ll_opt v
  rw [show z7.wl.map (·.1) = [v 0, v 1, v 2, v 3, v 4, v 5] from ?_]
  ·exact this
  ·rw [hvd]
   generalize z7.wl = wl at hwl
   rcases wl with _ | ⟨p0, _ | ⟨p1, _ | ⟨p2, _ | ⟨p3, _ | ⟨p4, _ | ⟨p5, _ | ⟨_, _⟩⟩⟩⟩⟩⟩⟩ <;> first | rfl | (simp at hwl; done)
 have hpl : (prodL z7.wl z7.dl).length = 6 := by simp [prodL, hwl, hdl]
 have hdb : ∀ p ∈ z7.dl, p.1 ≤ 6 := fun p hp => pileOk_le _ _ hok _ (List.mem_map_of_mem hp)
 have hne : z7.dl.map (·.1) ≠ [] := by
  intro e
  have := congrArg List.length e
  rw [List.length_map, hdl] at this
  exact absurd this (by decide)
 refine L7_t (sm := ll14 v) O (hA.le (by decide)) hκ hl hd ?_ ?_ ?_ S₀ fun ps0 κ7 hκ7 hd7 hl7 hn7 h1 t1 S2 => ?_
 ·exact fun idx hi => gap_c3 O (hA.le (by decide)) hsz hi hwl hdl fun p hp => Nat.lt_of_le_of_lt (hw p hp) (by decide)
 ·intro l q idx hl6 hi
  refine gap_sumN O (hA.le (by decide)) hsz hi (fun p hp => prodL_le hw hdb _ (List.of_mem_zip hp).1) (by rw [List.length_zip, hpl, hl6]; decide) ?_
  rw [List.map_fst_zip (by rw [hpl, hl6]; decide), prodL_sum, hsm]
 ·exact fun idx hi => gap_least O (hA.le (by decide)) hsz hi hvb hwl hv
 refine pile_run (pa := (SX.fresh (ps0 2)) 0 + 1) (pd := (SX.fresh (ps0 2)) 0) (pk := (SX.fresh (ps0 2)) 1 + 5) (qk := (SX.fresh (ps0 2)) 1 + 3) O (AOk.over (d := 300) (hA.le (by rw [hn7]; decide)) hd7) hsz (z7.dl.map (·.1)) (by rw [List.length_map]) (by rw [List.length_map]; lia) rfl hne hok ((SX.fresh (ps0 2)) 0 + 6) t1 0 _ h1 S2 fun h2 n2 t2 pe q1 q2 q3 vd vo vb st' hst S3 => ?_
 rw [hfd] at hst
 obtain ⟨x, rfl, hx⟩ : ∃ x, st' = [x] ∧ x.d = 0 := by
  rcases st' with _ | ⟨x, _ | ⟨_, _⟩⟩
  ·exact nomatch hst
  ·exact ⟨x, rfl, (List.cons.inj hst).1⟩
  ·exact nomatch (List.cons.inj hst).2
 obtain ⟨xa, xu, xv, xd⟩ := x
 subst hx
 exact ch8 O hA fin A T Q J E2 hr (EndL.app [_] hE) S3 hκ7 hl7 hd7
theorem ch7 (y : ZT) (zk : ZK) (qs : List Pc) (wl : PL) (J E1 : Led) (cx t : Nat) (E2 : Led) (hE1 : E1 = (121, tabO [.int 94 0, .int 32 0, .ref (cx + 186)]) :: E2) (hsc : (z1.sc, listO z1.vs z1.ep) ∈ E2) (hr : y.r = J ++ ((z3.n + 1 + 186, listO (intV wl) 6) :: (z1.n + 1 + 186, cellO (.ref (z3.n + 1 + 186))) :: E1))
  (hwl : wl.length = 6) (hw : ∀ p ∈ wl, p.1 ≤ 100) (hdl : y.dl.length = 6) (hok : pileOk [] (y.dl.map (·.1))) (hfd : (y.dl.map (·.1)).foldl pushD [] = [0]) (hopt : Opt (wl.map (·.1)) (dot (wl.map (·.1)) (y.dl.map (·.1)))) {h : Heap}
  (S₀ : St (B0 (wf (wf2 w b2) b) h₀) h ((z1.n + 186, frTB (wf (wf2 w b2) b) lay z1 z2 z3 y) :: tlZ (wf (wf2 w b2) b) z1 z2 z3 y (cellO y.bv) (tbK zk) qs) (y.n + 186)) {κ : RK} (hκ : κ = kt6 (wf2 w b2) b z1.n) (hl : κ.rlen = 0 + 1) (hn : κ.len = 1) (hd : depOk A₀ κ) :
  endK (B0 (wf (wf2 w b2) b) h₀) A₀ R κ (.ok .next) (sh h [.finished, .finished] dr t os) := by
 unfold tlZ tlC tlE at S₀
 rw [hr] at S₀
 have S1 := S₀.perm (ch7_perm _ _ _ _ _ _ _ _ _ _ _ _ _ _ _ _ _ _)
 subst hE1
 refine ch7a (z7 := z7of (wf (wf2 w b2) b) z1 z2 z3 y zk qs wl J _ t) O hA hsz fin [_, _, _, _, _, _, _, _, _] (tbK zk) (qs.map Pc.led) J E2 cx rfl ⟨List.mem_append_right _ (List.mem_append_right _ (List.mem_append_right _ (List.mem_append_right _ hsc))), ⟨_, List.mem_append_left _ (.tail _ (.tail _ (.tail _ (.tail _ (.tail _ (.tail _ (.tail _ (.head _)))))))) ⟩, ⟨_, List.mem_append_right _ (List.mem_append_left _ (.head _))⟩⟩ hwl hw hdl hok hfd hopt S1 hκ hl hn hd
end
noncomputable def pcA (z3 : Z3) (k i : Nat) : Pc := ⟨z3.n + k, z3.tx i, z3.ty i, z3.x i, z3.y i⟩
noncomputable def pcsA (z3 : Z3) : List Pc := [pcA z3 33 0, pcA z3 38 1, pcA z3 43 2, pcA z3 48 3, pcA z3 53 4, pcA z3 58 5]
noncomputable def wlA (z3 : Z3) : PL := [((z3.x 0).length + (z3.y 0).length, z3.t + 7), ((z3.x 1).length + (z3.y 1).length, z3.t + 14), ((z3.x 2).length + (z3.y 2).length, z3.t + 21), ((z3.x 3).length + (z3.y 3).length, z3.t + 28), ((z3.x 4).length + (z3.y 4).length, z3.t + 35), ((z3.x 5).length + (z3.y 5).length, z3.t + 42)]
noncomputable def cdA (X : LX) : Addr × Obj := (X.cd + 186, codeO X.v0 X.q X.tq X.rest)
noncomputable def rowA (z3 : Z3) : Addr × Obj := (z3.n + 210, rowO (z3.n + 209) (refV ((pcsA z3).map (·.a))) 6)
theorem zip_maps (P : List Pc) (L : List (List Wd)) (e : L.length = P.length) : ((P.zip L).map (·.1)) = P ∧ ((P.zip L).map fun q => q.2.map (·.i)) = L.map fun q => q.map (·.i) := by
 refine ⟨List.map_fst_zip (by lia), ?_⟩
 have h : (P.zip L).map (·.2) = L := List.map_snd_zip (by lia)
 have h2 : (P.zip L).map (fun q => q.2.map (·.i)) = ((P.zip L).map (·.2)).map fun q => q.map (·.i) := by rw [List.map_map]; rfl
 rw [h2, h]
theorem ch6_perm (fr it de ke c7 c8 c9 nm ro rd t121 c10 dr cd t158 t172 sc : Addr × Obj) (P junk : Led) :
  (fr :: it :: c8 :: c9 :: c10 :: dr :: ke :: de :: ro :: rd :: cd :: t158 :: nm :: ([t172] ++ (P ++ (c7 :: t121 :: sc :: junk)))).Perm (fr :: it :: de :: ke :: c7 :: c8 :: c9 :: nm :: ro :: rd :: (P ++ (t121 :: c10 :: dr :: cd :: t158 :: t172 :: sc :: junk))) :=
 perm_of [[fr], [it], [de], [ke], [c7], [c8], [c9], [nm], [ro], [rd], P, [t121], [c10], [dr], [cd], [t158], [t172], [sc], junk] [0, 1, 5, 6, 12, 13, 3, 2, 8, 9, 14, 15, 7, 16, 10, 4, 11, 17, 18] [0, 1, 2, 3, 4, 5, 6, 7, 8, 9, 10, 11, 12, 13, 14, 15, 16, 17, 18] (by decide)
noncomputable def zt6 (z1 : Z1) (z3 : Z3) (z4 : Z4) (z5 : Z5) (X : LX) (n0 t0 t1 cx : Nat) (junk : Led) : ZT :=
 { n := n0 + 4, t := t1, it := n0 + 3, ke := n0, ml := 0, kt := 0, k1 := z3.t + 49, k2 := z3.t + 50, k3 := z4.t + 31, k4 := z4.t + 32, k5 := z5.kna, k6 := t0 + 3, k7 := 0, k8 := 0, k9 := 0, k10 := 0, k11 := 0, k12 := 0, we := z3.n + 1, ep := 0, kep := 0, wep := 6, de := n0 + 1, ra := 0, rd := 0, rep := 6, d0 := 0, c1 := X.cd, c2 := z4.n + 17, a0 := 0, a1 := 0, tx0 := 0, ty0 := 0, tx1 := 0, ty1 := 0, v1 := .str (S (z3.x 5)) (z3.tx 5), v2 := .str (S (z3.y 5)) (z3.ty 5), v3 := .ref (z4.n + 207), v4 := .ref (z4.n + 210), v5 := .str (S [32, 102]) z5.nt, v7 := .none, v8 := .none, v9 := .none, v10 := .none, v11 := .none, v12 := .none, kv := .none, bv := .none, kl := [], wl := wlA z3, dl := [(0, t0 + 4), (0, t0 + 5), (0, t0 + 6), (0, t0 + 7), (0, t0 + 8), (0, t0 + 9)], pre := [], post := [], x0 := [], y0 := [], x1 := [], y1 := [], tb2 := [], rs := X.rest, v0 := X.v0, q := X.q, ctq := X.tq, r := (z1.n + 1 + 186, cellO (.ref (z3.n + 1 + 186))) :: (121, tabO [.int 94 0, .int 32 0, .ref (cx + 186)]) :: (z1.sc, listO z1.vs z1.ep) :: junk }
section
variable {h₀ : HS} {w : World} {b2 b lay : Bool} {z1 : Z1} {z2 : Z2} {z3 : Z3} {ps : Nat → SX} {z4 : Z4} {z5 : Z5} {z6 : Z6} {k : Nat} (O : (B0 (wf (wf2 w b2) b) h₀).Ok) {A₀ : Around} (hA : AOk A₀ 400) (hsz : 186 ≤ h₀.h.objs.size) {R : Result → Shared → Prop} {dr : Drawn} {os : OsState}
 (fin : ∀ (h' : Heap) (n' t' : Nat) (r' : Led), EndL z1 r' → (∃ vs, (121, tabO vs) ∈ r') → St (B0 (wf (wf2 w b2) b) h₀) h' r' n' → R (.ok (.ret (.bool true))) (sh h' [.finished, .finished, .finished] dr t' os))
include O hA hsz fin
theorem ch6a (y : ZT) (qs : List (Pc × List Wd)) (E2 : Led) (cx : Nat) (hr : y.r = (z1.n + 1 + 186, cellO (.ref (z3.n + 1 + 186))) :: (121, tabO [.int 94 0, .int 32 0, .ref (cx + 186)]) :: E2) (hsc : (z1.sc, listO z1.vs z1.ep) ∈ E2) (hwe : y.we = z3.n + 1) (hwp : y.wep = 6) (hq : qs.length = 6) (hqs : ∀ q ∈ qs, PcOk q.1 q.2) (hi : (qs.map fun q => q.2.map (·.i)) = is0)
  (hwl : y.wl.length = 6) (hw : ∀ p ∈ y.wl, 0 < p.1 ∧ p.1 ≤ 100) (hkl : y.kl = []) (hml : y.ml = 0) (hdl : y.dl.map (·.1) = ds0) {h : Heap}
  (S₀ : St (B0 (wf (wf2 w b2) b) h₀) h ((z1.n + 186, frTA (wf (wf2 w b2) b) lay z1 z2 z3 y) :: tlC (wf (wf2 w b2) b) z1 z2 z3 y 0 5 cell0 tb0 (qs.map (·.1))) (y.n + 186)) {κ : RK} (hκ : κ = kt6 (wf2 w b2) b z1.n) (hl : κ.rlen = 0 + 1) (hn : κ.len = 1) (hd : depOk A₀ κ) :
  codeAny (MM (wf2 w b2) b) (arnd A₀ κ) (forOf (lawStmt (wf (wf2 w b2) b).params 14) (y.it + 186) (lawEnv (wf (wf2 w b2) b).params z1.n)) (endK (B0 (wf (wf2 w b2) b) h₀) A₀ R κ) (sh h [.finished, .finished] dr y.t os) := by
 obtain ⟨ds', g1, g2, g3, g4, g5⟩ := gw (y.wl.map (·.1)) (by rw [List.length_map, hwl]) (fun x hx => by
  obtain ⟨p, hp, rfl⟩ := List.mem_map.mp hx
  exact (hw p hp).1)
 have hd6 : y.dl.length = 6 := by
  have := congrArg List.length hdl
  rw [List.length_map] at this
  exact this
 have hsum : ((qs.map (·.2)).map List.length).sum = 6 := by
  have := congrArg (fun l => (l.map List.length).sum) hi
  simpa [Function.comp_def, is0] using this
 refine turns_all O (AOk.over (d := 300) (hA.le (by rw [hn]; decide)) hd) hsz ds' _ 4 y qs h (by rw [hi, hdl]; exact g1) (by lia) hqs hsum (by lia) (by rw [hml, hkl]; rfl) (by rw [hkl]; decide) hd6 rfl S₀ fun h' t' y' zk' qs' J e1 e2 e3 S' => ?_
 rw [hr, hwe, hwp] at e3
 exact ch7 O hA hsz fin y' zk' (qs'.map (·.1)) y.wl J _ cx t' E2 rfl hsc e3 hwl (fun p hp => (hw p hp).2) e2 (by rw [e1]; exact g3) (by rw [e1]; exact g4) (by rw [e1]; exact g5) S' hκ hl hn hd
theorem ch6 (L : List (List Wd)) (junk : Led) (cx : Nat) (hr : z6.r = (z2.n + 186, namesO z2) :: rowA z3 :: (z3.n + 209, rowDO (wf (wf2 w b2) b) z3) :: ((pcsA z3).map Pc.led ++ ((121, tabO [.int 94 0, .int 32 0, .ref (cx + 186)]) :: (z1.n + 190, cell0) :: (z3.n + 187, listO (intV (wlA z3)) 6) :: cdA (lx4 (wf2 w b2) b lay z1 z2 z3 ps z4) :: (158, tabO [.int 108 0, .int 4 0, .ref (z4.n + 196), .int 112 0, .int 13 0, .ref (z4.n + 203)]) :: (172, tabO []) :: (z1.sc, listO z1.vs z1.ep) :: junk)))
  (hL : L.length = 6) (hqs : ∀ q ∈ (pcsA z3).zip L, PcOk q.1 q.2) (hi : (L.map fun q => q.map (·.i)) = is0) (hw : ∀ p ∈ wlA z3, 0 < p.1 ∧ p.1 ≤ 100)
  (hasc : z4.Q.all (fun c => decide (c < 128)) = true) (hQ : z4.Q.length < 1000) (hne : z4.Q ≠ []) (hk : cnt10 z4.Q = k) (hk2 : k < 1000) (hln : z5.ln = 1 + k) {h : Heap}
  (S₀ : St (B0 (wf (wf2 w b2) b) h₀) h ((z1.n + 186, lawA (wf (wf2 w b2) b) lay z1 z2 z3 10 [en (wf (wf2 w b2) b) c_white (z3.t + 49) (.str (S (z3.x 5)) (z3.tx 5)), en (wf (wf2 w b2) b) c_word (z3.t + 50) (.str (S (z3.y 5)) (z3.ty 5)), en (wf (wf2 w b2) b) c_lexer (z4.t + 31) (.ref (z4.n + 207)), en (wf (wf2 w b2) b) c_told (z4.t + 32) (.ref (z4.n + 210)), en (wf (wf2 w b2) b) c_name z5.kna (.str (S [32, 102]) z5.nt)]) :: (z1.n + 188, cell0) :: (z1.n + 189, cell0) :: (z1.n + 187, cellO (.ref (z3.n + 187))) :: z6.r) (z6.n + 186)) {κ : RK} (hκ : κ = (L5 (wf2 w b2) b lay z1 z2 z3 ps z4 z5).kont) (hl : κ.rlen = 2 + 1) (hd : depOk A₀ κ) :
  endK (B0 (wf (wf2 w b2) b) h₀) A₀ R κ (.ok (.ret (.str (S z4.Q) z6.tq))) (sh h [.finished, .finished] dr z6.t os) := by
 refine L6_t O (hA.le (by decide)) hκ hl hd hsz hasc hQ hne hk hk2 (by rw [hln]; simp) S₀ fun ps0 κ6 hκ6 hd6 hl6 hn6 h1 t1 S1 => ?_
 rw [hr] at S1
 have S2 := S1.perm (ch6_perm _ _ _ _ _ _ _ _ _ _ _ _ _ _ _ _ _ _ _)
 obtain ⟨e1, e2⟩ := zip_maps (pcsA z3) L (by rw [hL]; rfl)
 refine ch6a (lay := lay) (z2 := z2) (y := zt6 z1 z3 z4 z5 (lx4 (wf2 w b2) b lay z1 z2 z3 ps z4) ((SX.fresh (ps0 0)) 0) ((SX.fresh (ps0 0)) 1) t1 cx junk) O hA hsz fin ((pcsA z3).zip L) _ cx rfl (.head _) rfl rfl (by rw [List.length_zip, hL]; rfl) hqs (by rw [e2]; exact hi) rfl hw rfl rfl rfl ?_ hκ6 hl6 hn6 hd6
 rw [e1]
 refine Eq.mp ?_ S2
 kernel_rfl
end
noncomputable def pcTx (z3 : Z3) : List Nat := [z3.x 0 ++ z3.y 0, z3.x 1 ++ z3.y 1, z3.x 2 ++ z3.y 2, z3.x 3 ++ z3.y 3, z3.x 4 ++ z3.y 4, z3.x 5 ++ z3.y 5].flatten
structure SixOk (z3 : Z3) (L : List Wd) : Prop where
 hL : L.map (·.i) = [0, 1, 2, 3, 4, 5]
 hws : ∀ w ∈ L, allWs w ∧ w.ws ≠ []
 hqs : ∀ q ∈ (pcsA z3).zip (L.map fun w => [w]), PcOk q.1 q.2
 hw : ∀ p ∈ wlA z3, 0 < p.1 ∧ p.1 ≤ 100
 htx : pcTx z3 = wtx L
 hasc : (pcTx z3).all (fun c => decide (c < 128)) = true
 hQ : (pcTx z3).length < 1000
 hQ2 : 2 ≤ (pcTx z3).length
 hle : ∀ i, (z3.x i).length ≤ 100 ∧ (z3.y i).length ≤ 100
 hlt : ∀ i, i < 6 → (z3.x i).length + (z3.y i).length ≤ 100
theorem ch5_perm1 (fr nm to lx dx al pb st sd rf cd tc ac t158 ro rd t121 c7 dr c8 c9 c10 t172 sc : Addr × Obj) (P junk : Led) :
  (fr :: ro :: to :: nm :: lx :: dx :: rd :: (P ++ (t121 :: cd :: t158 :: c7 :: dr :: c8 :: c9 :: c10 :: t172 :: sc :: al :: pb :: st :: sd :: rf :: tc :: ac :: junk))).Perm (fr :: nm :: to :: lx :: dx :: al :: pb :: st :: sd :: rf :: cd :: tc :: ac :: t158 :: ro :: rd :: (P ++ (t121 :: c7 :: dr :: c8 :: c9 :: c10 :: t172 :: sc :: junk))) :=
 perm_of [[fr], [nm], [to], [lx], [dx], [al], [pb], [st], [sd], [rf], [cd], [tc], [ac], [t158], [ro], [rd], P, [t121], [c7], [dr], [c8], [c9], [c10], [t172], [sc], junk] [0, 14, 2, 1, 3, 4, 15, 16, 17, 10, 13, 18, 19, 20, 21, 22, 23, 24, 5, 6, 7, 8, 9, 11, 12, 25] (List.range 26) (by decide)
theorem ch5_perm2 (fr nm ro rd t121 : Addr × Obj) (P r : Led) : (ro :: rd :: (P ++ (t121 :: fr :: nm :: r))).Perm (fr :: ro :: nm :: rd :: (P ++ (t121 :: r))) :=
 perm_of [[fr], [ro], [nm], [rd], P, [t121], r] [1, 3, 4, 5, 0, 2, 6] (List.range 7) (by decide)
theorem ch5_perm3 (fr nm ro rd t121 cd t158 c7 dr c8 c9 c10 t172 sc : Addr × Obj) (P r : Led) : (fr :: c8 :: c9 :: c7 :: nm :: ro :: rd :: (P ++ (t121 :: c10 :: dr :: cd :: t158 :: t172 :: sc :: r))).Perm (ro :: rd :: (P ++ (t121 :: fr :: nm :: cd :: t158 :: c7 :: dr :: c8 :: c9 :: c10 :: t172 :: sc :: r))) :=
 perm_of [[ro], [rd], P, [t121], [fr], [nm], [cd], [t158], [c7], [dr], [c8], [c9], [c10], [t172], [sc], r] [4, 10, 11, 8, 5, 0, 1, 2, 3, 12, 9, 6, 7, 13, 14, 15] (List.range 16) (by decide)
noncomputable def lexQ (w : World) (X : LX) (p tp ep : Nat) : Led :=
 [(X.al + 186, listO [.int (Int.ofNat p) tp] 0), (X.pb + 186, listO [] ep), (X.st + 186, lamO (X.sd + 186) X.dt), (X.sd + 186, dictO 1 [en w [114, 101, 97, 100] X.kr (.ref (X.rf + 186))]),
 (X.rf + 186, readO w.params (X.tc + 186) (X.ac + 186) (X.cd + 186) (X.ct + 186) X.km), (X.tc + 186, cellO (.str X.text X.tk)), (X.ac + 186, cellO (.ref (X.al + 186)))]
noncomputable def r5t (w : World) (X : LX) (z1 : Z1) (z3 : Z3) (z4 : Z4) (p tp ep : Nat) (junk : Led) : Led := cdA X :: (158, tabO [.int 108 0, .int 4 0, .ref (z4.n + 196), .int 112 0, .int 13 0, .ref (z4.n + 203)]) :: (z1.n + 187, cellO (.ref (z3.n + 187))) :: (z3.n + 187, listO (intV (wlA z3)) 6) :: (z1.n + 188, cell0) :: (z1.n + 189, cell0) :: (z1.n + 190, cell0) :: (172, tabO []) :: (z1.sc, listO z1.vs z1.ep) :: (lexQ w X p tp ep ++ junk)
noncomputable def r5of (w : World) (X : LX) (z1 : Z1) (z3 : Z3) (z4 : Z4) (cx p tp ep : Nat) (junk : Led) : Led :=
 (z3.n + 209, rowDO w z3) :: ((pcsA z3).map Pc.led ++ ((121, tabO [.int 94 0, .int 32 0, .ref (cx + 186)]) :: r5t w X z1 z3 z4 p tp ep junk))
noncomputable def r6of (w : World) (X : LX) (z1 : Z1) (z2 : Z2) (z3 : Z3) (z4 : Z4) (cx : Nat) (junk : Led) : Led := (z2.n + 186, namesO z2) :: rowA z3 :: (z3.n + 209, rowDO w z3) :: ((pcsA z3).map Pc.led ++ ((121, tabO [.int 94 0, .int 32 0, .ref (cx + 186)]) :: (z1.n + 190, cell0) :: (z3.n + 187, listO (intV (wlA z3)) 6) :: cdA X :: (158, tabO [.int 108 0, .int 4 0, .ref (z4.n + 196), .int 112 0, .int 13 0, .ref (z4.n + 203)]) :: (172, tabO []) :: (z1.sc, listO z1.vs z1.ep) :: junk))
section
variable {h₀ : HS} {w : World} {b2 b lay : Bool} {z1 : Z1} {z2 : Z2} {z3 : Z3} {ps : Nat → SX} {z4 : Z4} (O : (B0 (wf (wf2 w b2) b) h₀).Ok) {A₀ : Around} (hA : AOk A₀ 400) (hsz : 186 ≤ h₀.h.objs.size) {R : Result → Shared → Prop} {dr : Drawn} {os : OsState}
 (fin : ∀ (h' : Heap) (n' t' : Nat) (r' : Led), EndL z1 r' → (∃ vs, (121, tabO vs) ∈ r') → St (B0 (wf (wf2 w b2) b) h₀) h' r' n' → R (.ok (.ret (.bool true))) (sh h' [.finished, .finished, .finished] dr t' os))
include O hA hsz fin
theorem ch5 {z5 : Z5} (L : List Wd) (hS : SixOk z3 L) (hQ4 : z4.Q = pcTx z3) (junk : Led) (cx p tp ep : Nat) (hln : z5.ln = 1 + cnt10 (wtx L)) {h : Heap}
  (S₀ : St (B0 (wf (wf2 w b2) b) h₀) h ((z1.n + 186, lawA (wf (wf2 w b2) b) lay z1 z2 z3 10 [en (wf (wf2 w b2) b) c_white (z3.t + 49) (.str (S (z3.x 5)) (z3.tx 5)), en (wf (wf2 w b2) b) c_word (z3.t + 50) (.str (S (z3.y 5)) (z3.ty 5)), en (wf (wf2 w b2) b) c_lexer (z4.t + 31) (.ref (z4.n + 207)), en (wf (wf2 w b2) b) c_told (z4.t + 32) (.ref (z4.n + 210)), en (wf (wf2 w b2) b) c_name z5.kna (.str (S [32, 102]) z5.nt)]) :: (z2.n + 186, namesO z2) :: (z4.n + 210, listO [.str (S [34, 97]) (z5.tt 0), .str (S [92, 98]) (z5.tt 1), .str (S [35, 99]) (z5.tt 2), .str (S [10, 100]) (z5.tt 3), .str (S [9, 101]) (z5.tt 4), .str (S [32, 102]) (z5.tt 5)] z5.te) :: (lexLed (wf (wf2 w b2) b) (lx4 (wf2 w b2) b lay z1 z2 z3 ps z4) z5.ln z5.tl p tp [] ep ++ ((158, tabO [.int 108 0, .int 4 0, .ref (z4.n + 196), .int 112 0, .int 13 0, .ref (z4.n + 203)]) :: rowA z3 :: (z3.n + 209, rowDO (wf (wf2 w b2) b) z3) :: ((pcsA z3).map Pc.led ++ ((121, tabO [.int 94 0, .int 32 0, .ref (cx + 186)]) :: (z1.n + 187, cellO (.ref (z3.n + 187))) :: (z3.n + 187, listO (intV (wlA z3)) 6) :: (z1.n + 188, cell0) :: (z1.n + 189, cell0) :: (z1.n + 190, cell0) :: (172, tabO []) :: (z1.sc, listO z1.vs z1.ep) :: junk))))) (z5.n + 186)) {κ : RK} (hκ : κ = kt4 (wf2 w b2) b z1.n) (hl : κ.rlen = 0 + 1) (hd : depOk A₀ κ) :
  endK (B0 (wf (wf2 w b2) b) h₀) A₀ R κ (.ok .next) (sh h [.finished] dr z5.t os) := by
 have S1 := S₀.perm (ch5_perm1 _ _ _ _ _ _ _ _ _ _ _ _ _ _ _ _ _ _ _ _ _ _ _ _ _ _)
 refine L5_t (lay := lay) (z2 := z2) (z3 := z3) (ps := ps) (z4 := z4) (z5 := { z5 with r := r5of (wf (wf2 w b2) b) (lx4 (wf2 w b2) b lay z1 z2 z3 ps z4) z1 z3 z4 cx p tp ep junk }) O (hA.le (by decide)) hκ hl hd (Eq.mp (by kernel_rfl) S1) fun κ5 hκ5 hd5 hl5 hn5 h1 t1 S2 => ?_
 have S3 := S2.perm (ch5_perm2 _ _ _ _ (121, tabO [.int 94 0, .int 32 0, .ref (cx + 186)]) ((pcsA z3).map Pc.led) _)
 refine str6b (n := z5.n) (ra := z3.n + 24) (rd := z3.n + 23) (cx := cx) (rk := z3.t + 46) (re := 6) (ist := 286) (p0 := z3.n + 33) (tx0 := z3.tx 0) (ty0 := z3.ty 0) (x0 := z3.x 0) (y0 := z3.y 0) (p1 := z3.n + 38) (tx1 := z3.tx 1) (ty1 := z3.ty 1) (x1 := z3.x 1) (y1 := z3.y 1) (p2 := z3.n + 43) (tx2 := z3.tx 2) (ty2 := z3.ty 2) (x2 := z3.x 2) (y2 := z3.y 2) (p3 := z3.n + 48) (tx3 := z3.tx 3) (ty3 := z3.ty 3) (x3 := z3.x 3) (y3 := z3.y 3) (p4 := z3.n + 53) (tx4 := z3.tx 4) (ty4 := z3.ty 4) (x4 := z3.x 4) (y4 := z3.y 4) (p5 := z3.n + 58) (tx5 := z3.tx 5) (ty5 := z3.ty 5) (x5 := z3.x 5) (y5 := z3.y 5) (r := (z1.n + 186, lawA (wf (wf2 w b2) b) lay z1 z2 z3 10 [en (wf (wf2 w b2) b) c_white (z3.t + 49) (.str (S (z3.x 5)) (z3.tx 5)), en (wf (wf2 w b2) b) c_word (z3.t + 50) (.str (S (z3.y 5)) (z3.ty 5)), en (wf (wf2 w b2) b) c_lexer (z4.t + 31) (.ref (z4.n + 207)), en (wf (wf2 w b2) b) c_told (z4.t + 32) (.ref (z4.n + 210)), en (wf (wf2 w b2) b) c_name z5.kna (.str (S [32, 102]) z5.nt)]) :: (z2.n + 186, namesO z2) :: r5t (wf (wf2 w b2) b) (lx4 (wf2 w b2) b lay z1 z2 z3 ps z4) z1 z3 z4 p tp ep junk) O (AOk.over (d := 170) (hA.le (by rw [hn5]; decide)) hd5) (hS.hlt 0 (by decide)) (hS.hlt 1 (by decide)) (hS.hlt 2 (by decide)) (hS.hlt 3 (by decide)) (hS.hlt 4 (by decide)) (hS.hlt 5 (by decide)) (Eq.mp (by kernel_rfl) S3) fun h2 n2 t2 cx2 tq S5 => ?_
 have S6 : St (B0 (wf (wf2 w b2) b) h₀) h2 (rowA z3 :: (z3.n + 209, rowDO (wf (wf2 w b2) b) z3) :: ((pcsA z3).map Pc.led ++ ((121, tabO [.int 94 0, .int 32 0, .ref (cx2 + 186)]) :: (z1.n + 186, lawA (wf (wf2 w b2) b) lay z1 z2 z3 10 [en (wf (wf2 w b2) b) c_white (z3.t + 49) (.str (S (z3.x 5)) (z3.tx 5)), en (wf (wf2 w b2) b) c_word (z3.t + 50) (.str (S (z3.y 5)) (z3.ty 5)), en (wf (wf2 w b2) b) c_lexer (z4.t + 31) (.ref (z4.n + 207)), en (wf (wf2 w b2) b) c_told (z4.t + 32) (.ref (z4.n + 210)), en (wf (wf2 w b2) b) c_name z5.kna (.str (S [32, 102]) z5.nt)]) :: (z2.n + 186, namesO z2) :: r5t (wf (wf2 w b2) b) (lx4 (wf2 w b2) b lay z1 z2 z3 ps z4) z1 z3 z4 p tp ep junk))) (n2 + 186) := Eq.mp (by kernel_rfl) S5
 have S7 := S6.perm (ch5_perm3 _ _ _ _ _ _ _ _ _ _ _ _ _ _ _ (lexQ (wf (wf2 w b2) b) (lx4 (wf2 w b2) b lay z1 z2 z3 ps z4) p tp ep ++ junk))
 have hk : cnt10 z4.Q < 1000 := by
  rw [hQ4]; exact Nat.lt_of_le_of_lt (List.length_filter_le _ _) hS.hQ
 have hne : z4.Q ≠ [] := fun e => by
  have := hS.hQ2
  rw [← hQ4, e] at this
  exact absurd this (by decide)
 have hLl : L.length = 6 := by
  have := congrArg List.length hS.hL
  rw [List.length_map] at this
  exact this
 have hi : ((L.map fun w => [w]).map fun q => q.map (·.i)) = is0 := by
  have : ((L.map fun w => [w]).map fun q => q.map (·.i)) = (L.map (·.i)).map fun i => [i] := by simp [Function.comp_def]
  rw [this, hS.hL]; rfl
 have e : S z4.Q = S [z3.x 0 ++ z3.y 0, z3.x 1 ++ z3.y 1, z3.x 2 ++ z3.y 2, z3.x 3 ++ z3.y 3, z3.x 4 ++ z3.y 4, z3.x 5 ++ z3.y 5].flatten := congrArg S hQ4
 rw [← e]
 refine ch6 (z6 := ⟨n2, t2, tq, r6of (wf (wf2 w b2) b) (lx4 (wf2 w b2) b lay z1 z2 z3 ps z4) z1 z2 z3 z4 cx2 (lexQ (wf (wf2 w b2) b) (lx4 (wf2 w b2) b lay z1 z2 z3 ps z4) p tp ep ++ junk)⟩) O hA hsz fin (L.map fun w => [w]) (lexQ (wf (wf2 w b2) b) (lx4 (wf2 w b2) b lay z1 z2 z3 ps z4) p tp ep ++ junk) cx2 rfl (by rw [List.length_map, hLl]) hS.hqs hi hS.hw (by rw [hQ4]; exact hS.hasc) (by rw [hQ4]; exact hS.hQ) hne rfl hk (by show z5.ln = _; rw [hln, hQ4, hS.htx]) ?_ hκ5 hl5 hd5
 exact Eq.mp (by kernel_rfl) S7
end
noncomputable def r4of (w : World) (z1 : Z1) (z3 : Z3) (cx : Nat) (junk : Led) : Led := rowA z3 :: (z3.n + 209, rowDO w z3) :: ((pcsA z3).map Pc.led ++ ((121, tabO [.int 94 0, .int 32 0, .ref (cx + 186)]) :: (z1.n + 187, cellO (.ref (z3.n + 187))) :: (z3.n + 187, listO (intV (wlA z3)) 6) :: (z1.n + 188, cell0) :: (z1.n + 189, cell0) :: (z1.n + 190, cell0) :: (172, tabO []) :: (z1.sc, listO z1.vs z1.ep) :: junk))
noncomputable def zn4 (w : World) (z1 : Z1) (z3 : Z3) (z4 : Z4) (t : Nat) : ZN := { n := z4.n + 26, t := t, it := z4.n + 25, to := z4.n + 24, kw := z3.t + 49, wt := z3.tx 5, kd := z3.t + 50, dt := z3.ty 5, klx := z4.t + 31, kto := z4.t + 32, kna := 0, ln := 1, tl := z4.t + 21, p := 0, tp := z4.t, ep := 0, te := 0, wx := z3.x 5, wy := z3.y 5, nv := .none, tt := fun _ => 0, r := (158, tabO [.int 108 0, .int 4 0, .ref (z4.n + 196), .int 112 0, .int 13 0, .ref (z4.n + 203)]) :: z4.r }
section
variable {h₀ : HS} {w : World} {b2 b lay : Bool} {z1 : Z1} {z2 : Z2} {z3 : Z3} (O : (B0 (wf (wf2 w b2) b) h₀).Ok) {A₀ : Around} (hA : AOk A₀ 400) (hsz : 186 ≤ h₀.h.objs.size) {R : Result → Shared → Prop} {dr : Drawn} {os : OsState}
 (fin : ∀ (h' : Heap) (n' t' : Nat) (r' : Led), EndL z1 r' → (∃ vs, (121, tabO vs) ∈ r') → St (B0 (wf (wf2 w b2) b) h₀) h' r' n' → R (.ok (.ret (.bool true))) (sh h' [.finished, .finished, .finished] dr t' os))
include O hA hsz fin
theorem ch4 {ps : Nat → SX} {z4 : Z4} (L : List Wd) (hS : SixOk z3 L) (hQ4 : z4.Q = pcTx z3) (junk : Led) (cx : Nat) (hr : z4.r = r4of (wf (wf2 w b2) b) z1 z3 cx junk) {h : Heap}
  (S₀ : St (B0 (wf (wf2 w b2) b) h₀) h ((z1.n + 186, lawA (wf (wf2 w b2) b) lay z1 z2 z3 7 [en (wf (wf2 w b2) b) c_white (z3.t + 49) (.str (S (z3.x 5)) (z3.tx 5)), en (wf (wf2 w b2) b) c_word (z3.t + 50) (.str (S (z3.y 5)) (z3.ty 5))]) :: (z2.n + 186, namesO z2) :: (158, tabO []) :: z4.r) (z4.n + 186)) {κ : RK} (hκ : κ = kt3 (wf2 w b2) b z1.n (z3.n + 210)) (hl : κ.rlen = 2 + 1) (hd : depOk A₀ κ) :
  endK (B0 (wf (wf2 w b2) b) h₀) A₀ R κ (.ok (.ret (.str (S z4.Q) z4.tq))) (sh h [.finished] dr z4.t os) := by
 obtain ⟨n4, t4, tq4, Q4, r4⟩ := z4
 change r4 = _ at hr
 change Q4 = _ at hQ4
 subst hr hQ4
 refine L4_t (lay := lay) (z2 := z2) (ps := ps) O (hA.le (by decide)) hκ hl hd (Eq.mp (by kernel_rfl) S₀) fun κ4 hκ4 hd4 hl4 hn4 h1 t1 S1 => ?_
 have hX : (lx4 (wf2 w b2) b lay z1 z2 z3 ps ⟨n4, t4, tq4, (pcTx z3), r4of (wf (wf2 w b2) b) z1 z3 cx junk⟩).text = S (pcTx z3) := by kernel_rfl
 have hS2 := hS.hws
 refine nr0 (lay := lay) (z3 := z3) (z2 := z2) (X := (lx4 (wf2 w b2) b lay z1 z2 z3 ps ⟨n4, t4, tq4, (pcTx z3), r4of (wf (wf2 w b2) b) z1 z3 cx junk⟩)) (y := zn4 (wf (wf2 w b2) b) z1 z3 ⟨n4, t4, tq4, (pcTx z3), r4of (wf (wf2 w b2) b) z1 z3 cx junk⟩ t1) O (AOk.over (d := 200) (hA.le (by rw [hn4]; decide)) hd4) hsz (by rw [hX]; exact hS.hQ2) L hS.hL (fun w hw => (hS.hws w hw).1) (fun w hw => (hS.hws w (List.mem_of_mem_tail hw)).2) (by rw [hX]; exact hS.htx) (Nat.zero_le _) (Eq.mp (by kernel_rfl) S1) fun h2 n2 t2 kna te nt tl tp ep tt S2 => ?_
 exact ch5 (lay := lay) (z2 := z2) (ps := ps) (z4 := ⟨n4, t4, tq4, (pcTx z3), r4of (wf (wf2 w b2) b) z1 z3 cx junk⟩) (z5 := { n := n2, t := t2, kna := kna, te := te, ln := 1 + cnt10 (wtx L), tl := tl, nt := nt, tt := tt, r := [] }) O hA hsz fin L hS rfl junk cx (lx4 (wf2 w b2) b lay z1 z2 z3 ps ⟨n4, t4, tq4, (pcTx z3), r4of (wf (wf2 w b2) b) z1 z3 cx junk⟩).text.length tp ep rfl (Eq.mp (by kernel_rfl) S2) hκ4 hl4 hd4
end
noncomputable def r3of (z1 : Z1) (z2 : Z2) (junk : Led) : Led := (z2.n + 186, namesO z2) :: (z1.n + 188, cell0) :: (z1.n + 189, cell0) :: (z1.n + 190, cell0) :: (121, tabO []) :: (158, tabO []) :: (172, tabO []) :: (z1.sc, listO z1.vs z1.ep) :: junk
theorem ch3_perm1 (fr c7 dr ro rd nm c8 c9 c10 t121 t158 t172 sc : Addr × Obj) (P junk : Led) :
  (ro :: rd :: (P ++ (t121 :: fr :: c7 :: dr :: nm :: c8 :: c9 :: c10 :: t158 :: t172 :: sc :: junk))).Perm (fr :: c7 :: dr :: ro :: rd :: (P ++ (nm :: c8 :: c9 :: c10 :: t121 :: t158 :: t172 :: sc :: junk))) :=
 perm_of [[fr], [c7], [dr], [ro], [rd], P, [nm], [c8], [c9], [c10], [t121], [t158], [t172], [sc], junk] [3, 4, 5, 10, 0, 1, 2, 6, 7, 8, 9, 11, 12, 13, 14] (List.range 15) (by decide)
theorem ch3_perm2 (fr c7 dr ro rd nm c8 c9 c10 t121 t158 t172 sc : Addr × Obj) (P junk : Led) :
  (fr :: nm :: t158 :: ro :: rd :: (P ++ (t121 :: c7 :: dr :: c8 :: c9 :: c10 :: t172 :: sc :: junk))).Perm (ro :: rd :: (P ++ (t121 :: fr :: c7 :: dr :: nm :: c8 :: c9 :: c10 :: t158 :: t172 :: sc :: junk))) :=
 perm_of [[ro], [rd], P, [t121], [fr], [c7], [dr], [nm], [c8], [c9], [c10], [t158], [t172], [sc], junk] [4, 7, 11, 0, 1, 2, 3, 5, 6, 8, 9, 10, 12, 13, 14] (List.range 15) (by decide)
section
variable {h₀ : HS} {w : World} {b2 b lay : Bool} {z1 : Z1} {z2 : Z2} (O : (B0 (wf (wf2 w b2) b) h₀).Ok) {A₀ : Around} (hA : AOk A₀ 400) (hsz : 186 ≤ h₀.h.objs.size) {R : Result → Shared → Prop} {dr : Drawn} {os : OsState}
 (fin : ∀ (h' : Heap) (n' t' : Nat) (r' : Led), EndL z1 r' → (∃ vs, (121, tabO vs) ∈ r') → St (B0 (wf (wf2 w b2) b) h₀) h' r' n' → R (.ok (.ret (.bool true))) (sh h' [.finished, .finished, .finished] dr t' os))
include O hA hsz fin
theorem ch3 {z3 : Z3} (L : List Wd) (hS : SixOk z3 L) (junk : Led) (hr : z3.r = r3of z1 z2 junk) {h : Heap}
  (S₀ : St (B0 (wf (wf2 w b2) b) h₀) h ((z1.n + 186, frL0 lay 3 (hd2 (wf (wf2 w b2) b) z1) (en (wf (wf2 w b2) b) [107] z2.kk (.int (Int.ofNat z2.q) z2.ku)) [en (wf (wf2 w b2) b) c_names (z2.t + 6) (.ref (z2.n + 186))]) :: (z1.n + 187, cell0) :: (z3.pc + 186, listO [.ref ((z3.p 0) + 186), .ref ((z3.p 1) + 186), .ref ((z3.p 2) + 186), .ref ((z3.p 3) + 186), .ref ((z3.p 4) + 186), .ref ((z3.p 5) + 186)] z3.ep) :: ((z3.p 0) + 186, tupO [.str (S (z3.x 0)) (z3.tx 0), .str (S (z3.y 0)) (z3.ty 0)]) :: ((z3.p 1) + 186, tupO [.str (S (z3.x 1)) (z3.tx 1), .str (S (z3.y 1)) (z3.ty 1)]) :: ((z3.p 2) + 186, tupO [.str (S (z3.x 2)) (z3.tx 2), .str (S (z3.y 2)) (z3.ty 2)]) :: ((z3.p 3) + 186, tupO [.str (S (z3.x 3)) (z3.tx 3), .str (S (z3.y 3)) (z3.ty 3)]) :: ((z3.p 4) + 186, tupO [.str (S (z3.x 4)) (z3.tx 4), .str (S (z3.y 4)) (z3.ty 4)]) :: ((z3.p 5) + 186, tupO [.str (S (z3.x 5)) (z3.tx 5), .str (S (z3.y 5)) (z3.ty 5)]) :: z3.r) (z3.n + 186)) {κ : RK} (hκ : κ = (L2 (wf2 w b2) b lay z1 z2).kont) (hl : κ.rlen = 0 + 1) (hd : depOk A₀ κ) :
  endK (B0 (wf (wf2 w b2) b) h₀) A₀ R κ (.ok (.ret (.ref (z3.pc + 186)))) (sh h [] dr z3.t os) := by
 refine L3_t O (hA.le (by decide)) hκ hl hd (fun i => Nat.lt_of_le_of_lt (hS.hle i).1 (by decide)) (fun i => Nat.lt_of_le_of_lt (hS.hle i).2 (by decide)) (Eq.mp (by kernel_rfl) S₀) fun ps0 κ3 hκ3 hd3 hl3 hn3 h1 t1 S1 => ?_
 rw [hr] at S1
 have S2 : St (B0 (wf (wf2 w b2) b) h₀) h1 ((z1.n + 186, lawA (wf (wf2 w b2) b) lay z1 z2 z3 7 [en (wf (wf2 w b2) b) c_white (z3.t + 49) (.str (S (z3.x 5)) (z3.tx 5)), en (wf (wf2 w b2) b) c_word (z3.t + 50) (.str (S (z3.y 5)) (z3.ty 5))]) :: (z1.n + 187, cellO (.ref (z3.n + 187))) :: (z3.n + 187, listO (intV (wlA z3)) 6) :: rowA z3 :: (z3.n + 209, rowDO (wf (wf2 w b2) b) z3) :: ((pcsA z3).map Pc.led ++ r3of z1 z2 junk)) (z3.n + 61 + 186) := Eq.mp (by kernel_rfl) S1
 have S3 := S2.perm (ch3_perm1 _ _ _ _ _ _ _ _ _ _ _ _ _ _ junk)
 refine str6a (n := z3.n + 61) (ra := z3.n + 24) (rd := z3.n + 23) (rk := z3.t + 46) (re := 6) (ist := 286) (p0 := z3.n + 33) (tx0 := z3.tx 0) (ty0 := z3.ty 0) (x0 := z3.x 0) (y0 := z3.y 0) (p1 := z3.n + 38) (tx1 := z3.tx 1) (ty1 := z3.ty 1) (x1 := z3.x 1) (y1 := z3.y 1) (p2 := z3.n + 43) (tx2 := z3.tx 2) (ty2 := z3.ty 2) (x2 := z3.x 2) (y2 := z3.y 2) (p3 := z3.n + 48) (tx3 := z3.tx 3) (ty3 := z3.ty 3) (x3 := z3.x 3) (y3 := z3.y 3) (p4 := z3.n + 53) (tx4 := z3.tx 4) (ty4 := z3.ty 4) (x4 := z3.x 4) (y4 := z3.y 4) (p5 := z3.n + 58) (tx5 := z3.tx 5) (ty5 := z3.ty 5) (x5 := z3.x 5) (y5 := z3.y 5) (r := (z1.n + 186, lawA (wf (wf2 w b2) b) lay z1 z2 z3 7 [en (wf (wf2 w b2) b) c_white (z3.t + 49) (.str (S (z3.x 5)) (z3.tx 5)), en (wf (wf2 w b2) b) c_word (z3.t + 50) (.str (S (z3.y 5)) (z3.ty 5))]) :: (z1.n + 187, cellO (.ref (z3.n + 187))) :: (z3.n + 187, listO (intV (wlA z3)) 6) :: (z2.n + 186, namesO z2) :: (z1.n + 188, cell0) :: (z1.n + 189, cell0) :: (z1.n + 190, cell0) :: (158, tabO []) :: (172, tabO []) :: (z1.sc, listO z1.vs z1.ep) :: junk) O (AOk.over (d := 170) (hA.le (by rw [hn3]; decide)) hd3) (hS.hlt 0 (by decide)) (hS.hlt 1 (by decide)) (hS.hlt 2 (by decide)) (hS.hlt 3 (by decide)) (hS.hlt 4 (by decide)) (hS.hlt 5 (by decide)) (Eq.mp (by kernel_rfl) S3) fun h2 n2 t2 cx tq S4 => ?_
 have S5 : St (B0 (wf (wf2 w b2) b) h₀) h2 (rowA z3 :: (z3.n + 209, rowDO (wf (wf2 w b2) b) z3) :: ((pcsA z3).map Pc.led ++ ((121, tabO [.int 94 0, .int 32 0, .ref (cx + 186)]) :: (z1.n + 186, lawA (wf (wf2 w b2) b) lay z1 z2 z3 7 [en (wf (wf2 w b2) b) c_white (z3.t + 49) (.str (S (z3.x 5)) (z3.tx 5)), en (wf (wf2 w b2) b) c_word (z3.t + 50) (.str (S (z3.y 5)) (z3.ty 5))]) :: (z1.n + 187, cellO (.ref (z3.n + 187))) :: (z3.n + 187, listO (intV (wlA z3)) 6) :: (z2.n + 186, namesO z2) :: (z1.n + 188, cell0) :: (z1.n + 189, cell0) :: (z1.n + 190, cell0) :: (158, tabO []) :: (172, tabO []) :: (z1.sc, listO z1.vs z1.ep) :: junk))) (n2 + 186) := Eq.mp (by kernel_rfl) S4
 have S6 := S5.perm (ch3_perm2 _ _ _ _ _ _ _ _ _ _ _ _ _ _ junk)
 exact ch4 (ps := ps0) (lay := lay) (z2 := z2) (z4 := ⟨n2, t2, tq, pcTx z3, r4of (wf (wf2 w b2) b) z1 z3 cx junk⟩) O hA hsz fin L hS rfl junk cx rfl (Eq.mp (by kernel_rfl) S6) hκ3 hl3 hd3
end
theorem white_ok (N : Int) : 1 ≤ (whiteN N).length ∧ (whiteN N).length ≤ 6 ∧ ∀ c ∈ whiteN N, isWs c = true ∧ c < 128 := by
 have h := (fmod_nat N 6 (by decide)).2
 have h4 := (fmod_nat (N.fdiv 12) 4 (by decide)).2
 have e : ((Int.ofNat 6 : Int)) = 6 := rfl
 have e4 : ((Int.ofNat 4 : Int)) = 4 := rfl
 rw [e] at h
 rw [e4] at h4
 have hl : (whiteN N).length = 1 + (N.fmod 6).toNat := List.length_replicate ..
 refine ⟨by lia, by lia, fun c hc => ?_⟩
 obtain rfl := List.eq_of_mem_replicate hc
 generalize ((N.fdiv 12).fmod 4).toNat = k at h4 ⊢
 match k, h4 with
 | 0, _ => decide
 | 1, _ => decide
 | 2, _ => decide
 | 3, _ => decide
theorem word_ok (qd : Bool) : ∀ i, 1 ≤ (wordT qd (nA i + 1) (nB i + 1)).length ∧ (wordT qd (nA i + 1) (nB i + 1)).length ≤ 5 ∧ ∀ c ∈ wordT qd (nA i + 1) (nB i + 1), c < 128
 | 0 => by cases qd <;> decide
 | 1 => by cases qd <;> decide
 | 2 => by cases qd <;> decide
 | 3 => by cases qd <;> decide
 | 4 => by cases qd <;> decide
 | i + 5 => by
  have : ∀ qd, 1 ≤ (wordT qd 32 102).length ∧ (wordT qd 32 102).length ≤ 5 ∧ ∀ c ∈ wordT qd 32 102, c < 128 := by decide
  exact this qd
noncomputable def wdN (N : Nat → Int) (i : Nat) : Wd := ⟨quotedN (N i), whiteN (N i), i⟩
noncomputable def xN (N : Nat → Int) (i : Nat) : List Nat := whiteN (N i)
noncomputable def yN (N : Nat → Int) (i : Nat) : List Nat := wordT (quotedN (N i)) (nA i + 1) (nB i + 1)
noncomputable def LN (N : Nat → Int) : List Wd := [wdN N 0, wdN N 1, wdN N 2, wdN N 3, wdN N 4, wdN N 5]
theorem ne_of_len {l : List Nat} (h : 1 ≤ l.length) : l ≠ [] := fun e => by rw [e] at h; exact absurd h (by decide)
theorem pc_ok {z3 : Z3} {N : Nat → Int} (hx : z3.x = xN N) (hy : z3.y = yN N) (k i : Nat) (hi : i < 6) : PcOk (pcA z3 k i) [wdN N i] := by
 have w1 := white_ok (N i)
 have w2 := word_ok (quotedN (N i)) i
 refine ⟨?_, ?_, ?_, ?_, fun v hv => ?_⟩
 ·show z3.x i ≠ []; rw [hx]; exact ne_of_len w1.1
 ·show z3.y i ≠ []; rw [hy]; exact ne_of_len w2.1
 ·show z3.x i ++ z3.y i = _; rw [hx, hy]
  show _ = whiteN (N i) ++ (wordT _ _ _ ++ [])
  rw [List.append_nil]; rfl
 ·show (z3.x i).length + (z3.y i).length ≤ 15 * 1; rw [hx, hy]
  show (whiteN (N i)).length + (wordT _ _ _).length ≤ _
  lia
 ·obtain rfl := List.mem_singleton.mp hv
  exact ⟨fun c hc => (w1.2.2 c hc).1, ne_of_len w1.1, hi⟩
theorem six_len {z3 : Z3} {N : Nat → Int} (hx : z3.x = xN N) (hy : z3.y = yN N) (i : Nat) : 2 ≤ (z3.x i ++ z3.y i).length ∧ (z3.x i ++ z3.y i).length ≤ 11 ∧ ∀ c ∈ z3.x i ++ z3.y i, c < 128 := by
 rw [hx, hy]
 have w1 := white_ok (N i)
 have w2 := word_ok (quotedN (N i)) i
 refine ⟨?_, ?_, fun c hc => ?_⟩
 ·rw [List.length_append]; show _ ≤ (whiteN (N i)).length + (wordT _ _ _).length; lia
 ·rw [List.length_append]; show (whiteN (N i)).length + (wordT _ _ _).length ≤ _; lia
 ·rcases List.mem_append.mp hc with hc | hc
  ·exact (w1.2.2 c hc).2
  ·exact w2.2.2 c hc
theorem cat6 (a b c d e f : List Nat) : (a ++ (b ++ (c ++ (d ++ (e ++ (f ++ [])))))).length = a.length + (b.length + (c.length + (d.length + (e.length + f.length)))) := by simp
theorem six_ok {z3 : Z3} {N : Nat → Int} (hx : z3.x = xN N) (hy : z3.y = yN N) : SixOk z3 (LN N) := by
 have l := six_len hx hy
 have l0 := l 0
 have l1 := l 1
 have l2 := l 2
 have l3 := l 3
 have l4 := l 4
 have l5 := l 5
 have e : pcTx z3 = (z3.x 0 ++ z3.y 0) ++ ((z3.x 1 ++ z3.y 1) ++ ((z3.x 2 ++ z3.y 2) ++ ((z3.x 3 ++ z3.y 3) ++ ((z3.x 4 ++ z3.y 4) ++ ((z3.x 5 ++ z3.y 5) ++ []))))) := rfl
 have hlen : (pcTx z3).length = (z3.x 0 ++ z3.y 0).length + ((z3.x 1 ++ z3.y 1).length + ((z3.x 2 ++ z3.y 2).length + ((z3.x 3 ++ z3.y 3).length + ((z3.x 4 ++ z3.y 4).length + (z3.x 5 ++ z3.y 5).length)))) := by
  rw [e]; exact cat6 _ _ _ _ _ _
 refine ⟨rfl, fun w hw => ?_, fun q hq => ?_, fun p hp => ?_, ?_, ?_, by lia, by lia, fun i => ?_, fun i _ => ?_⟩
 ·have key : ∀ i, allWs (wdN N i) ∧ (wdN N i).ws ≠ [] := fun i => ⟨fun c hc => ((white_ok (N i)).2.2 c hc).1, ne_of_len (white_ok (N i)).1⟩
  simp only [LN, List.mem_cons, List.not_mem_nil, or_false] at hw
  rcases hw with rfl | rfl | rfl | rfl | rfl | rfl <;> exact key _
 ·have key := fun k i hi => pc_ok hx hy k i hi
  simp only [pcsA, LN, List.map_cons, List.map_nil, List.zip_cons_cons, List.zip_nil_right, List.mem_cons, List.not_mem_nil, or_false] at hq
  rcases hq with rfl | rfl | rfl | rfl | rfl | rfl <;> exact key _ _ (by decide)
 ·rw [List.length_append] at l0 l1 l2 l3 l4 l5
  simp only [wlA, List.mem_cons, List.not_mem_nil, or_false] at hp
  rcases hp with rfl | rfl | rfl | rfl | rfl | rfl <;> (constructor <;> dsimp only <;> lia)
 ·rw [e, hx, hy]
  simp only [LN, wtx, wdN, xN, yN, List.append_assoc, List.append_nil]
 ·rw [List.all_eq_true, e]
  intro c hc
  refine decide_eq_true ?_
  rcases List.mem_append.mp hc with hc | hc
  ·exact l0.2.2 c hc
  rcases List.mem_append.mp hc with hc | hc
  ·exact l1.2.2 c hc
  rcases List.mem_append.mp hc with hc | hc
  ·exact l2.2.2 c hc
  rcases List.mem_append.mp hc with hc | hc
  ·exact l3.2.2 c hc
  rcases List.mem_append.mp hc with hc | hc
  ·exact l4.2.2 c hc
  rcases List.mem_append.mp hc with hc | hc
  ·exact l5.2.2 c hc
  ·exact nomatch hc
 ·have := l i
  rw [List.length_append] at this
  lia
 ·have := l i
  rw [List.length_append] at this
  lia
noncomputable def r2of (z1 : Z1) : Led := [(z1.sc, listO z1.vs z1.ep), (z1.n + 192, rangeO z1.m (z1.t + 10) (z1.t + 9) (z1.t + 11)), (z1.n + 190, cell0), (z1.n + 189, cell0), (z1.n + 188, cell0), (z1.n + 187, cell0), (121, tabO []), (158, tabO []), (172, tabO [])]
theorem ch2_perm (pc nu nm p0 p1 p2 p3 p4 p5 fr sc rg c10 c9 c8 c7 t121 t158 t172 : Addr × Obj) : [fr, c7, pc, p0, p1, p2, p3, p4, p5, nm, c8, c9, c10, t121, t158, t172, sc, nu, rg].Perm [pc, nu, nm, p5, p4, p3, p2, p1, p0, fr, sc, rg, c10, c9, c8, c7, t121, t158, t172] :=
 perm_of [[pc], [nu], [nm], [p5], [p4], [p3], [p2], [p1], [p0], [fr], [sc], [rg], [c10], [c9], [c8], [c7], [t121], [t158], [t172]] [9, 15, 0, 8, 7, 6, 5, 4, 3, 2, 14, 13, 12, 16, 17, 18, 10, 1, 11] (List.range 19) (by decide)
section
variable {h₀ : HS} {w : World} {b2 b lay : Bool} {z1 : Z1} (O : (B0 (wf (wf2 w b2) b) h₀).Ok) {A₀ : Around} (hA : AOk A₀ 400) (hsz : 186 ≤ h₀.h.objs.size) {R : Result → Shared → Prop} {dr : Drawn} {os : OsState}
 (fin : ∀ (h' : Heap) (n' t' : Nat) (r' : Led), EndL z1 r' → (∃ vs, (121, tabO vs) ∈ r') → St (B0 (wf (wf2 w b2) b) h₀) h' r' n' → R (.ok (.ret (.bool true))) (sh h' [.finished, .finished, .finished] dr t' os))
include O hA hsz fin
theorem ch2 {z2 : Z2} (hr : z2.r = r2of z1) {h : Heap} (S₀ : St (B0 (wf (wf2 w b2) b) h₀) h ((z1.n + 186, frL0 lay 2 (hd2 (wf (wf2 w b2) b) z1) (en (wf (wf2 w b2) b) [107] z2.kk (.int (Int.ofNat z2.q) z2.ku)) []) :: (z1.n + 191, listO [.int (z2.N 0) (z2.u 0), .int (z2.N 1) (z2.u 1), .int (z2.N 2) (z2.u 2), .int (z2.N 3) (z2.u 3), .int (z2.N 4) (z2.u 4), .int (z2.N 5) (z2.u 5)] z2.ne) :: z2.r) (z2.n + 186)) {κ : RK} (hκ : κ = (L1 (wf2 w b2) b z1.sc z1.ep z1.n z1.t z1.m z1.vs z1.r z1.t1).kont) (hl : κ.rlen = 0 + 1) (hd : depOk A₀ κ) :
  endK (B0 (wf (wf2 w b2) b) h₀) A₀ R κ (.ok .next) (sh h [] dr z2.t os) := by
 refine L2_t (lay := lay) O (hA.le (by decide)) hκ hl hd (Eq.mp (by kernel_rfl) S₀) fun κ2 hκ2 hdK hl2 hn2 h1 t1 S1 => ?_
 rw [hr] at S1
 refine law_pieces (n := z2.n + 1) (nu := z1.n + 5) (na := z2.n) (ne := z2.ne) (nae := 0) (N0 := z2.N 0) (u0 := z2.u 0) (s0 := z2.t + 0) (N1 := z2.N 1) (u1 := z2.u 1) (s1 := z2.t + 1) (N2 := z2.N 2) (u2 := z2.u 2) (s2 := z2.t + 2) (N3 := z2.N 3) (u3 := z2.u 3) (s3 := z2.t + 3) (N4 := z2.N 4) (u4 := z2.u 4) (s4 := z2.t + 4) (N5 := z2.N 5) (u5 := z2.u 5) (s5 := z2.t + 5) (r := (z1.n + 186, frL0 lay 3 (hd2 (wf (wf2 w b2) b) z1) (en (wf (wf2 w b2) b) [107] z2.kk (.int (Int.ofNat z2.q) z2.ku)) [en (wf (wf2 w b2) b) c_names (z2.t + 6) (.ref (z2.n + 186))]) :: r2of z1) O (AOk.over (d := 150) (hA.le (by rw [hn2]; decide)) hdK) (Eq.mp (by kernel_rfl) (S1.perm (perm_of [[_], [_], [_], r2of z1] [2, 1, 0, 3] [0, 1, 2, 3] (by decide)))) fun h2 n2 t2 pc ep p0 p1 p2 p3 p4 p5 a0 a1 a2 a3 a4 a5 b0 b1 b2 b3 b4 b5 S2 => ?_
 have S3 := S2.perm (ch2_perm _ _ _ _ _ _ _ _ _ _ _ _ _ _ _ _ _ _ _)
 exact ch3 (z3 := { n := n2, t := t2, pc := pc, ep := ep, p := fun i => [p0, p1, p2, p3, p4, p5].getD i 0, tx := fun i => [a0, a1, a2, a3, a4, a5].getD i 0, ty := fun i => [b0, b1, b2, b3, b4, b5].getD i 0, x := xN z2.N, y := yN z2.N, r := r3of z1 z2 [(z1.n + 191, listO [.int (z2.N 0) (z2.u 0), .int (z2.N 1) (z2.u 1), .int (z2.N 2) (z2.u 2), .int (z2.N 3) (z2.u 3), .int (z2.N 4) (z2.u 4), .int (z2.N 5) (z2.u 5)] z2.ne), (z1.n + 192, rangeO z1.m (z1.t + 10) (z1.t + 9) (z1.t + 11))] }) O hA hsz fin (LN z2.N) (six_ok rfl rfl) _ rfl (Eq.mp (by kernel_rfl) S3) hκ2 hl2 hdK
end
theorem six_of {α : Type} {l : List α} (h : l.length = 6) : ∃ a b c d e f, l = [a, b, c, d, e, f] := by
 match l, h with
 | [a, b, c, d, e, f], _ => exact ⟨a, b, c, d, e, f, rfl⟩
theorem ch1_perm (it rg nu c10 c9 c8 c7 fr sc t121 t158 t172 : Addr × Obj) : [fr, it, nu, sc, rg, c10, c9, c8, c7, t121, t158, t172].Perm [it, rg, nu, c10, c9, c8, c7, fr, sc, t121, t158, t172] :=
 perm_of [[it], [rg], [nu], [c10], [c9], [c8], [c7], [fr], [sc], [t121], [t158], [t172]] [7, 0, 2, 8, 1, 3, 4, 5, 6, 9, 10, 11] (List.range 12) (by decide)
theorem law_runs {h₀ : HS} {w : World} {b2 b : Bool} (O : (B0 (wf (wf2 w b2) b) h₀).Ok) {A₀ : Around} (hA : AOk A₀ 400) (hsz : 186 ≤ h₀.h.objs.size) {R : Result → Shared → Prop} {dr : Drawn} {os : OsState} {sc ep n t : Nat} {is : List (Int × Nat)} (hm : is.length < 1000)
  (fin : ∀ (h' : Heap) (n' t' : Nat) (r' : Led), EndL ⟨sc, ep, n, t, is.length, 0, intW is, []⟩ r' → (∃ vs, (121, tabO vs) ∈ r') → St (B0 (wf (wf2 w b2) b) h₀) h' r' n' → R (.ok (.ret (.bool true))) (sh h' [.finished, .finished, .finished] dr t' os))
  {h : Heap} (S₀ : St (B0 (wf (wf2 w b2) b) h₀) h [(sc, listO (intW is) ep), (121, tabO []), (158, tabO []), (172, tabO [])] (n + 186)) :
  codeAny (MM (wf2 w b2) b) A₀ (Code.call (.ref 185) ⟨[.ref sc], []⟩) R (sh h [] dr t os) := by
 refine L0_t (n := n) (m := is.length) (r := []) O (hA.le (by decide)) (by simp [intW]) hm S₀ fun κ0 hκ0 hd0 hl0 hn0 h1 t1 S1 => ?_
 refine range_iter (n := n + 193) hm S1 (.head _) fun h2 S2 => ?_
 refine L1_t (t1 := t1) O (hA.le (by decide)) hκ0 hl0 hd0 (Eq.mp (by kernel_rfl) S2) fun κ1 hκ1 hd1 hl1 hn1 h3 t3 S3 => ?_
 have S4 := S3.perm (ch1_perm _ _ _ _ _ _ _ _ _ _ _ _)
 refine scr_run (sc := sc) (ep := ep) (fr := n) (it := n + 7) (nu := n + 5) (n := n + 8) (ne := 0) (ks := t) (kn := t + 7) (is := is) (r := [(n + 192, rangeO is.length (t + 10) (t + 9) (t + 11)), (n + 190, cell0), (n + 189, cell0), (n + 188, cell0), (n + 187, cell0), (121, tabO []), (158, tabO []), (172, tabO [])]) O (AOk.over (d := 140) (hA.le (by rw [hn1]; decide)) hd1) hm t3 [(2, t + 1), (10, t + 2), (5, t + 3), (12, t + 4), (3, t + 5), (8, t + 6)] rfl h3 (Eq.mp (by kernel_rfl) S4) fun lay h4 n4 t4 kk q ku nl hnl S5 => ?_
 obtain ⟨a, b, c, d, e, f, rfl⟩ := six_of hnl
 exact ch2 (lay := lay) (z1 := ⟨sc, ep, n, t, is.length, t1, intW is, []⟩) (z2 := ⟨n4, t4, kk, q, ku, 0, fun i => ([a, b, c, d, e, f].getD i (0, 0)).2, fun i => ([a, b, c, d, e, f].getD i (0, 0)).1, r2of ⟨sc, ep, n, t, is.length, t1, intW is, []⟩⟩) O hA hsz fin rfl (Eq.mp (by kernel_rfl) S5) hκ1 hl1 hd1
noncomputable def cod (P : Params) (c x : Nat) : Bool := match (zhd.heap_207 P).lookup c with
 | some ⟨.type "code", _, .fields vs, _⟩ => (match (vs[11]? : Option Value) with | some (.ref y) => Nat.beq y x | _ => false)
 | _ => false
theorem cod_ok {P : Params} {h : Heap} (X : Frag.In (zhd.heap_207 P) h) {c x : Nat} (e : cod P c x = true) : isCodeTable h x := by
 unfold cod at e
 split at e
 ·rename_i vs _ q
  split at e
  ·rename_i y hy
   obtain rfl := Nat.eq_of_beq_eq_true e
   exact ⟨c, _, vs, X _ _ q, rfl, rfl, hy⟩
  ·exact nomatch e
 ·exact nomatch e
noncomputable def msk (P : Params) (a : Nat) : Option Obj := match Nat.testBit mask0 a with
 | true => (zhd.heap_207 P).lookup a
 | false => none
theorem look_all (P : Params) : (List.range 186).map (look0 P) = (List.range 186).map (msk P) := by kernel_rfl
theorem look_hi (P : Params) (a : Nat) (h : 186 ≤ a) : look0 P a = none := by
 have : Nat.testBit mask0 a = false := Nat.testBit_lt_two_pow (Nat.lt_of_lt_of_le (by decide +kernel : mask0 < 2 ^ 186) (Nat.pow_le_pow_right (by decide) h))
 unfold look0
 rw [this]
theorem look_in {P : Params} {h : Heap} (X : Frag.In (zhd.heap_207 P) h) {a : Nat} {o : Obj} (e : look0 P a = some o) : h.get? a = some o := by
 by_cases ha : 186 ≤ a
 ·rw [look_hi P a ha] at e; exact nomatch e
 ·have := List.map_inj_left.mp (look_all P) a (List.mem_range.mpr (by lia))
  rw [this] at e
  unfold msk at e
  cases ht : Nat.testBit mask0 a with
  | true => rw [ht] at e; exact X _ _ e
  | false => rw [ht] at e; exact nomatch e
theorem lim_ok (P : Params) : (match look0 P cStatics with | some o => noLim o | none => false) = true := by kernel_rfl
theorem tab_at (P : Params) : [(zhd.heap_207 P).lookup 121, (zhd.heap_207 P).lookup 158, (zhd.heap_207 P).lookup 172] = [some (tabO []), some (tabO []), some (tabO [])] := by kernel_rfl
theorem law_at (P : Params) : nsIn (zhd.heap_207 P) mainGlobals (Str.ofString "law") = some (some (.ref 185)) := by kernel_rfl
theorem world_ex (w : World) : ∃ w' b2 b, w = wf (wf2 w' b2) b :=
 ⟨w, w.params.followText "comprehension-iter-twice", w.params.followText "special-get-raises", by rw [wf2_self, wf_self]⟩
theorem base_ok {w : World} {h : Heap} (X : Frag.In (zhd.heap_207 w.params) h) : (B0 w ⟨h, 186⟩).Ok where
 lim := by
  have := lim_ok w.params
  cases e : look0 w.params cStatics with
  | none => rw [e] at this; exact nomatch this
  | some o => rw [e] at this; exact ⟨o, e, this⟩
 look := fun a o e => by
  have e' : look0 w.params a = some o := e
  refine ⟨look_in X e', fun hm => ?_⟩
  have h1 : ∀ x ∈ [121, 158, 172, 186], Nat.testBit mask0 x = false := by decide +kernel
  unfold look0 at e'
  rw [h1 a hm] at e'
  exact nomatch e'
theorem ints_are {vs : List Value} {ns : List Int} (h : IntsAre vs ns) : ∃ is : List (Int × Nat), vs = intW is ∧ is.length = ns.length := by
 induction h with
 | nil => exact ⟨[], rfl, rfl⟩
 | cons n t _ ih =>
  obtain ⟨is, h1, h2⟩ := ih
  exact ⟨(n, t) :: is, by rw [h1]; rfl, by rw [List.length_cons, List.length_cons, h2]⟩
theorem old_ok {h h' : Heap} {P : Params} (X : Frag.In (zhd.heap_207 P) h) (k : ∀ b o, h.get? b = some o → b ∉ [121, 158, 172] → h'.get? b = some o) (t : ∀ b ∈ [121, 158, 172], ∃ vs, h'.get? b = some (tabO vs)) : OldK h h' := by
 have T := tab_at P
 have t0 : ∀ b ∈ [121, 158, 172], h.get? b = some (tabO []) ∧ isCodeTable h b := by
  intro b hb
  simp only [List.mem_cons, List.not_mem_nil, or_false] at hb
  rcases hb with rfl | rfl | rfl
  ·exact ⟨X _ _ (List.cons.inj T).1, cod_ok X (c := 125) (by kernel_rfl)⟩
  ·exact ⟨X _ _ (List.cons.inj (List.cons.inj T).2).1, cod_ok X (c := 162) (by kernel_rfl)⟩
  ·exact ⟨X _ _ (List.cons.inj (List.cons.inj (List.cons.inj T).2).2).1, cod_ok X (c := 174) (by kernel_rfl)⟩
 refine ⟨fun b o e => ?_, fun b o e => ?_⟩
 ·by_cases hb : b ∈ [121, 158, 172]
  ·obtain ⟨h1, h2⟩ := t0 b hb
   obtain ⟨vs, h3⟩ := t b hb
   rw [h1] at e
   cases e
   exact .inr (.inl ⟨h2, rfl, ⟨[]⟩, ⟨vs⟩, rfl, by rw [h3]; simp [tabO]⟩)
  ·exact .inl (k b o e hb)
 ·by_cases hb : b ∈ [121, 158, 172]
  ·obtain ⟨vs, h3⟩ := t b hb
   exact ⟨_, h3⟩
  ·exact ⟨o, k b o e hb⟩
theorem tab_own {h : Heap} {w : World} : ∀ a ∈ [186, 121, 158, 172], a ∈ (B0 w ⟨h, 186⟩).tabs := by
 intro a ha
 have : ∀ a ∈ [186, 121, 158, 172], a ∈ [121, 158, 172, 186] := by decide
 exact this a ha
theorem law_link {w : World} {cl : Str → Option Addr} {mean : ExcName → Option Value} {s₁ : Shared} (X : Frag.In (zhd.heap_207 w.params) s₁.heap) (hg : s₁.gens = #[]) (hsz : s₁.heap.objs.size = 186 + 1) {vs : List Value} {ns : List Int} (hI : IntsAre vs ns) (hn : ns.length < 1000) (ho : s₁.heap.get? 186 = some { cls := .type "list", data := .seq vs.toArray }) :
  codeAny (model PySem.Challenge.pw_tl0006_01 w) callerA (.call (.ref 185) ⟨[.ref 186], []⟩) (GoodWG PySem.Challenge.rw_tl0006_01.row.toRowW.claim cl mean [ofPy (PyData.list (ns.map PyData.int))] s₁) s₁ := by
 obtain ⟨is, rfl, hl⟩ := ints_are hI
 obtain ⟨w', b2, b, rfl⟩ := world_ex w
 obtain ⟨h, g, dr, t, os⟩ := s₁
 change g = #[] at hg
 subst hg
 change Frag.In (zhd.heap_207 _) h at X
 have T := tab_at (wf (wf2 w' b2) b).params
 have S₀ : St (B0 (wf (wf2 w' b2) b) ⟨h, 186⟩) h [(186, listO (intW is) 0), (121, tabO []), (158, tabO []), (172, tabO [])] (1 + 186) :=
  {
   size := hsz
   low := Nat.le_of_eq hsz
   keep := fun _ _ e _ => e
   led := fun p hp => by
    simp only [List.mem_cons, List.not_mem_nil, or_false] at hp
    rcases hp with rfl | rfl | rfl | rfl
    ·exact ho
    ·exact X _ _ (List.cons.inj T).1
    ·exact X _ _ (List.cons.inj (List.cons.inj T).2).1
    ·exact X _ _ (List.cons.inj (List.cons.inj (List.cons.inj T).2).2).1
   nodup := (by decide : [186, 121, 158, 172].Nodup)
   own := fun p hp => by
    simp only [List.mem_cons, List.not_mem_nil, or_false] at hp
    rcases hp with rfl | rfl | rfl | rfl <;> exact .inl (tab_own _ (by simp)) }
 refine law_runs (base_ok X) ⟨by decide +kernel, by decide +kernel, rfl⟩ (by show 186 ≤ h.objs.size; rw [show h.objs.size = 186 + 1 from hsz]; decide) (by lia) (fun h' n' t' r' hE h121 S' => ?_) S₀
 have k1 : ∀ b' o, h.get? b' = some o → b' ∉ [121, 158, 172] → h'.get? b' = some o := fun b' o e hb => by
  by_cases h6 : b' = 186
  ·subst h6
   rw [show h.get? 186 = _ from ho] at e
   cases e
   exact S'.led _ hE.1
  ·refine S'.keep b' o e fun hm => ?_
   simp only [B0, List.mem_cons, List.not_mem_nil, or_false] at hm hb
   rcases hm with e | e | e | e
   ·exact hb (.inl e)
   ·exact hb (.inr (.inl e))
   ·exact hb (.inr (.inr e))
   ·exact h6 e
 have k2 : ∀ b' ∈ [121, 158, 172], ∃ vs, h'.get? b' = some (tabO vs) := fun b' hb => by
  simp only [List.mem_cons, List.not_mem_nil, or_false] at hb
  rcases hb with rfl | rfl | rfl
  ·exact h121.imp fun _ h => S'.led _ h
  ·exact hE.2.1.imp fun _ h => S'.led _ h
  ·exact hE.2.2.imp fun _ h => S'.led _ h
 refine ⟨.inl ⟨_, _, [], rfl, fun _ => rfl, ReadsW.bool true, ?_, fun _ => ⟨List.nodup_nil, fun _ hm => nomatch hm⟩⟩, old_ok X k1 k2, rfl, ?_⟩
 ·wrow_post
 ·intro y hy
  simp only [List.mem_toArray, List.mem_cons, List.not_mem_nil, or_false, or_self] at hy
  subst hy
  rfl
theorem walk_ok : zhd.1 := by
 unfold zhd
 intro w s₀ s₁ mg mb G y fa o pm cd doc dV kV ho hd hcd hD hmg hg args vals as L hpre hlay hrd hwl hlo
 obtain ⟨_, ZI, ZN, _⟩ := z_facts (fun P => by kernel_rfl) y
 have X : Frag.In (zhd.heap_207 w.params) s₁.heap := InK.keeps w s₀.heap s₁.heap ZI L.keeps
 have hfa : fa = 185 := by
  have := mg_of X G.T.g (law_at w.params)
  rw [show mg (Str.ofString "law") = some (.ref fa) from hmg] at this
  cases this
  rfl
 subst hfa
 clear hd hcd hD hmg y
 wrow_args hpre hlay hrd hwl hlo
 obtain ⟨hat, hsz⟩ := script_at L
 rw [ZN] at hat hsz
 subst hat
 rename IntsAre _ _ => hI
 rename Heap.IsList _ _ _ => hL
 have hlen : ∀ n : Nat, ¬ ((63 : Nat) : Int) < (n : Int) → n < 1000 := fun n h => by lia
 exact enter_call (law_link X hg hsz hI (hlen _ (by assumption)) (script_obj L hL))
end Mine
theorem PySem.Challenge.cw_tl0006_01_holds : PySem.Challenge.rw_tl0006_01.Holds := by
  exact Mine.zhd.2 Mine.walk_ok
