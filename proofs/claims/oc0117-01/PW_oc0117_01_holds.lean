import PyProof.Rows.All
import Wide.All
import OpenK.AllK
import Wide.FinOn
import PyProof.NeKinds
import PySem.Challenge.RW_oc0117_01
/-! ### QB -/
open PySem PySem.W PyProof.Rows PySem.Calls
set_option Elab.async false
set_option maxRecDepth 100000
set_option maxHeartbeats 4000000
namespace Mine

/-! ## the text's parts -/
noncomputable abbrev P : Program := PySem.Challenge.pw_oc0117_01
noncomputable def stAt (k : Nat) : Stmt := (P.main.body[k]?).getD (.Pass default)
noncomputable def fBody : Stmt → List Stmt | .FunctionDef _ _ b _ _ _ _ _ _ _ => b | _ => []
noncomputable def fArgs : Stmt → Arguments | .FunctionDef _ a _ _ _ _ _ _ _ _ => a | _ => ⟨[], [], none, [], [], none, []⟩
noncomputable def fScope : Stmt → Scope | .FunctionDef _ _ _ _ _ _ s _ _ _ => s | _ => default

/-! ## heaps that grow -/
noncomputable abbrev Ext (h h' : Heap) : Prop := ∀ b o, h.get? b = some o → h'.get? b = some o
theorem Ext.refl (h : Heap) : Ext h h := fun _ _ e => e
theorem Ext.trans {a b c : Heap} (x : Ext a b) (y : Ext b c) : Ext a c := fun q o e => y q o (x q o e)
theorem Ext.push (h : Heap) (o : Obj) : Ext h (h.push o) := fun _ _ e => Heap.get?_push_of_some _ e
theorem Ext.same {h₀ h h' : Heap} {L : Addr} (x : Ext h₀ h) (hL : h₀.get? L = none) (hs : Heap.SameBut L h h') : Ext h₀ h' := fun b o e =>
  hs.extBut b o (fun q => by rw [q, hL] at e; cases e) (x b o e)

/-! ## frames as lists -/
noncomputable abbrev FrL := List (Str × Option Value)
noncomputable def fr (l : FrL) : Str → Option Value := fun x => (l.lookup x).join
noncomputable def setL : FrL → Str → Value → FrL
  | [], x, v => [(x, some v)]
  | (y, o) :: r, x, v => if x == y then (y, some v) :: r else (y, o) :: setL r x v
theorem fr_cons (y : Str) (o : Option Value) (r : FrL) (x : Str) : fr ((y, o) :: r) x = if x == y then o else fr r x := by
  unfold fr
  rw [List.lookup_cons]
  cases h : x == y <;> simp
theorem fr_setL (l : FrL) (x : Str) (v : Value) : (fun y => if y = x then some v else fr l y) = fr (setL l x v) := by
  funext y
  induction l with
  | nil =>
    unfold setL
    rw [fr_cons]
    by_cases h : y = x <;> simp [h]
  | cons p r ih =>
    obtain ⟨z, o⟩ := p
    unfold setL
    by_cases hxz : (x == z) = true
    · rw [if_pos hxz, fr_cons, fr_cons]
      have e := beq_iff_eq.mp hxz; subst e
      by_cases h : y = x <;> simp [h]
    · rw [if_neg hxz, fr_cons, fr_cons]
      by_cases h : y = z
      · subst h
        have : ¬ y = x := fun q => hxz (by simp [q])
        simp [this]
      · simp only [beq_iff_eq, h, if_false]
        exact ih
theorem fr_binds1 {a : Str} {v : Value} {r : List Str} : (fun x => List.lookup x [(a, v)].reverse) = fr ((a, some v) :: r.map fun y => (y, none)) := by
  funext x
  rw [fr_cons]
  have hr : fr (r.map fun y => (y, none)) x = none := by
    induction r with
    | nil => rfl
    | cons z r ih => rw [List.map_cons, fr_cons, ih]; split <;> rfl
  rw [hr]
  show List.lookup x [(a, v)] = _
  rw [List.lookup_cons]
  cases h : x == a <;> simp
theorem fr_binds2 {a b : Str} {v u : Value} {r : List Str} (hab : (a == b) = false) : (fun x => List.lookup x [(a, v), (b, u)].reverse) = fr ((a, some v) :: (b, some u) :: r.map fun y => (y, none)) := by
  funext x
  rw [fr_cons, fr_cons]
  have hr : fr (r.map fun y => (y, none)) x = none := by
    induction r with
    | nil => rfl
    | cons z r ih => rw [List.map_cons, fr_cons, ih]; split <;> rfl
  rw [hr]
  show List.lookup x [(b, u), (a, v)] = _
  rw [List.lookup_cons, List.lookup_cons]
  cases h : x == a
  · cases h' : x == b <;> simp
  · have e := beq_iff_eq.mp h; subst e
    simp [hab]
theorem fr_binds3 {a b c : Str} {v u t : Value} {r : List Str} (hab : (a == b) = false) (hac : (a == c) = false) (hbc : (b == c) = false) :
    (fun x => List.lookup x [(a, v), (b, u), (c, t)].reverse) = fr ((a, some v) :: (b, some u) :: (c, some t) :: r.map fun y => (y, none)) := by
  funext x
  rw [fr_cons, fr_cons, fr_cons]
  have hr : fr (r.map fun y => (y, none)) x = none := by
    induction r with
    | nil => rfl
    | cons z r ih => rw [List.map_cons, fr_cons, ih]; split <;> rfl
  rw [hr]
  show List.lookup x [(c, t), (b, u), (a, v)] = _
  rw [List.lookup_cons, List.lookup_cons, List.lookup_cons]
  cases h : x == a
  · cases h' : x == b
    · cases h'' : x == c <;> simp
    · have e := beq_iff_eq.mp h'; subst e
      simp [hbc]
  · have e := beq_iff_eq.mp h; subst e
    simp [hab, hac]

section
variable {M : Model} {A : Around} {E : Value → Shared → Prop} {s : Shared} {env : Env}

/-- a local name read -/
theorem nmL {x : Str} {pos : Pos} {l : FrL} {v : Value} {Q : Value → Shared → Prop} (hn : s.heap.Ns env.locals (fr l)) (hv : fr l x = some v) (h : Q v s)
    (hk : env.scope.kind = .function := by rfl) (hl : env.kindOf x = some .local := by rfl) (hd : (x == ("__debug__" : Str)) = false := by rfl) :
    wpAny M A (eval (.Name x pos) env) Q E s := wpAny_Name (wpAny_loadName_local hk hl hn hv h) hd
theorem ldL {x : Str} {l : FrL} {v : Value} {Q : Value → Shared → Prop} (hn : s.heap.Ns env.locals (fr l)) (hv : fr l x = some v) (h : Q v s)
    (hk : env.scope.kind = .function := by rfl) (hl : env.kindOf x = some .local := by rfl) :
    wpAny M A (loadName env x) Q E s := wpAny_loadName_local hk hl hn hv h
/-- a local name stored -/
theorem stL {x : Str} {l : FrL} {v : Value} {Q : Unit → Shared → Prop} (hn : s.heap.Ns env.locals (fr l))
    (h : ∀ h', h'.Ns env.locals (fr (setL l x v)) → Heap.SameBut env.locals s.heap h' → Q () { s with heap := h', toks := s.toks + 1 })
    (hk : env.scope.kind = .function := by rfl) (hl : env.kindOf x = some .local := by rfl) :
    wpAny M A (storeName env x v) Q E s :=
  wpAny_storeName_local hl hn (fun h' hn' hs => h h' (by rw [← fr_setL]; exact hn') hs) (by rw [hk]; rfl)
/-- a global name read -/
theorem nmG {x : Str} {pos : Pos} {mg : Str → Option Value} {v : Value} {Q : Value → Shared → Prop} (hg : s.heap.Ns env.globals mg) (hv : mg x = some v) (h : Q v s)
    (hk : env.scope.kind = .function := by rfl) (hl : env.kindOf x = some .globalImplicit := by rfl) (hd : (x == ("__debug__" : Str)) = false := by rfl) :
    wpAny M A (eval (.Name x pos) env) Q E s := Name_function_global hk hl (loadGlobal_global hg hv h) hd
/-- a built-in name read -/
theorem nmB {x : Str} {pos : Pos} {mg mb : Str → Option Value} {v : Value} {Q : Value → Shared → Prop} (hg : s.heap.Ns env.globals mg) (hb : s.heap.Ns env.builtins mb) (hm : mg x = none) (hv : mb x = some v) (h : Q v s)
    (hk : env.scope.kind = .function := by rfl) (hl : env.kindOf x = some .globalImplicit := by rfl) (hd : (x == ("__debug__" : Str)) = false := by rfl) :
    wpAny M A (eval (.Name x pos) env) Q E s := Name_function_global hk hl (loadGlobal_builtin hg hm hb hv h) hd
end

/-- a state with another heap -/
noncomputable def St (s : Shared) (h : Heap) (tk : Nat) : Shared := { s with heap := h, toks := tk }

/-! ## the text's functions in the heap -/
noncomputable def IsFn (h : Heap) (a : Addr) (k : Nat) (name : Str) (dV : Value) : Prop :=
  ∃ (o : Obj) (kV doc pm : Value) (an : Option Addr) (cd ct : Value), h.get? a = some o ∧
    o.data = .func (fnOf name name (fArgs (stAt k)) (fBody (stAt k)) (fScope (stAt k)) dV kV doc pm an cd ct) ∧ h.CodeRec cd name
theorem IsFn.keeps {h h' : Heap} {a : Addr} {k : Nat} {name : Str} {dV : Value} (x : IsFn h a k name dV) (e : Ext h h') : IsFn h' a k name dV :=
  let ⟨o, kV, doc, pm, an, cd, ct, h1, h2, h3⟩ := x; ⟨o, kV, doc, pm, an, cd, ct, e _ _ h1, h2, h3.keeps e⟩

section
variable {w : World} {A : Around} {s : Shared} {E : Value → Shared → Prop}
theorem fn_call {k : Nat} {name : Str} {dV : Value} {a : Addr} {args : List Value} {binds : List (Str × Value)} {Q : Value → Shared → Prop}
    (hroom : A.depth < recursionLimit) (hlim : s.heap.NoLimit) (hfn : IsFn s.heap a k name dV)
    (hbind : ∀ kV doc pm an cd ct, BindsTo s (fnOf name name (fArgs (stAt k)) (fBody (stAt k)) (fScope (stAt k)) dV kV doc pm an cd ct) ⟨args, []⟩ binds)
    (hcell : ∀ x ∈ (fScope (stAt k)).names, x.2 ≠ .cell) (hloc : ∀ x ∈ binds, (fScope (stAt k)).names.lookup x.1 = some .local)
    (h : ∀ L cd h₁ A' E', h₁.Ns L (fun x => binds.reverse.lookup x) → Ext s.heap h₁ → s.heap.get? L = none → A'.depth = A.depth + 1 → A'.handled = A.handled →
      wpAny (model P w) A' (execs (fBody (stAt k)) (envOf name (fScope (stAt k)) L a cd)) (fun f s' => Q (match f with | .ret v => v | _ => .none) s') E' (St s h₁ (s.toks + binds.length)))
    (hco : (fScope (stAt k)).isCoroutine = false := by rfl) (hgen : (fScope (stAt k)).isGenerator = false := by rfl) (hk : (fScope (stAt k)).kind = .function := by rfl) :
    wpAny (model P w) A (call (.ref a) args) Q E s := by
  obtain ⟨o, kV, doc, pm, an, cd, ct, ho, hd, hcd⟩ := hfn
  refine wpAny_call ?_
  refine codeAny_call_def hroom ho hd hlim hcd rfl (hbind kV doc pm an cd ct) hcell hloc (fun h₁ hns hk₁ => ?_) hco hgen hk
  refine wpAny_mono (h s.heap.objs.size cd h₁ _ _ hns hk₁ ?_ rfl rfl) (fun f s' hq => hq) (fun _ _ e => e)
  cases hq : s.heap.get? s.heap.objs.size with
  | none => rfl
  | some o => exact absurd (Heap.lt_size hq) (Nat.lt_irrefl _)
end
end Mine

/-! ### QC -/
open PySem PySem.W PyProof.Rows PySem.Calls
set_option Elab.async false
set_option maxRecDepth 100000
set_option maxHeartbeats 4000000
set_option linter.unusedVariables false
namespace Mine

/-! ## computations that let the heap grow, from any heap that bears what h bears -/
noncomputable def CoH {α : Type} (w : World) (A : Around) (t : Sem α) (h : Heap) (V : α → Heap → Prop) : Prop :=
  ∀ (s : Shared) (Q : α → Shared → Prop) (E : Value → Shared → Prop), Ext h s.heap →
    (∀ v h' tk, V v h' → Ext s.heap h' → Q v (St s h' tk)) → wpAny (model P w) A t Q E s
noncomputable def Co {α : Type} (w : World) (A : Around) (t : Sem α) (h : Heap) (V : α → Prop) : Prop := CoH w A t h fun v _ => V v

noncomputable abbrev IsS (a : List Nat) : Value → Prop := fun v => ∃ t, v = .str ⟨a.toArray⟩ t
noncomputable abbrev IsI (i : Int) : Value → Prop := fun v => ∃ t, v = .int i t
noncomputable abbrev IsB (b : Bool) : Value → Prop := fun v => v = .bool b
noncomputable abbrev IsV (x : Value) : Value → Prop := fun v => v = x

section
variable {α β : Type} {w : World} {A : Around} {h : Heap}
theorem CoH.bind {t : Sem α} {f : α → Sem β} {V : α → Heap → Prop} {W : β → Heap → Prop} (x : CoH w A t h V) (y : ∀ v h', V v h' → Ext h h' → CoH w A (f v) h' W) : CoH w A (t >>= f) h W := by
  intro s Q E hI hQ
  refine wpAny_bind (x s _ E hI fun v h' tk hv he => ?_)
  exact y v h' hv (hI.trans he) _ Q E (Ext.refl _) fun u h'' tk' hu he' => hQ u h'' tk' hu (he.trans he')
theorem Co.bind {t : Sem α} {f : α → Sem β} {V : α → Prop} {W : β → Prop} (x : Co w A t h V) (y : ∀ v, V v → Co w A (f v) h W) : Co w A (t >>= f) h W := by
  intro s Q E hI hQ
  refine wpAny_bind (x s _ E hI fun v h' tk hv he => ?_)
  exact y v hv _ Q E (hI.trans he) fun u h'' tk' hu he' => hQ u h'' tk' hu (he.trans he')
theorem Co.pure {a : α} {V : α → Prop} (q : V a) : Co w A (pure a) h V := fun s Q E hI hQ => wpAny_pure (hQ a s.heap s.toks q (Ext.refl _))
theorem CoH.up {t : Sem α} {V : α → Heap → Prop} {h' : Heap} (x : CoH w A t h V) (e : Ext h h') : CoH w A t h' V := fun s Q E hI hQ => x s Q E (e.trans hI) hQ
theorem Co.up {t : Sem α} {V : α → Prop} {h' : Heap} (x : Co w A t h V) (e : Ext h h') : Co w A t h' V := CoH.up x e
theorem CoH.post {t : Sem α} {V V' : α → Heap → Prop} (x : CoH w A t h V') (q : ∀ v p, V' v p → V v p) : CoH w A t h V := fun s Q E hI hQ => x s Q E hI fun v p tk hv he => hQ v p tk (q v p hv) he
theorem Co.post {t : Sem α} {V V' : α → Prop} (x : Co w A t h V') (q : ∀ v, V' v → V v) : Co w A t h V := CoH.post x fun v _ e => q v e
theorem Co.eq {t : Sem α} {a : α} (x : Co w A t h fun v => v = a) {V : α → Prop} (q : V a) : Co w A t h V := x.post fun v e => e ▸ q
/-- a rule of the library that keeps the heap -/
theorem Co.still {t : Sem α} {V : α → Prop} (x : ∀ (s : Shared) (Q : α → Shared → Prop) (E : Value → Shared → Prop), (∀ v tk, V v → Q v { s with toks := tk }) → wpAny (model P w) A t Q E s) : Co w A t h V :=
  fun s Q E hI hQ => x s Q E fun v tk hv => hQ v s.heap tk hv (Ext.refl _)
end

section
variable {w : World} {A : Around} {h : Heap} {env : Env}
noncomputable abbrev Ev (w : World) (A : Around) (env : Env) (h : Heap) (e : Expr) (V : Value → Prop) : Prop := Co w A (eval e env) h V
noncomputable abbrev EvH (w : World) (A : Around) (env : Env) (h : Heap) (e : Expr) (V : Value → Heap → Prop) : Prop := CoH w A (eval e env) h V
noncomputable abbrev Te (w : World) (A : Around) (env : Env) (h : Heap) (e : Expr) (b : Bool) : Prop := Co w A (PySem.isTrue e env (eval e env)) h fun c => c = b

theorem ev_local {x : Str} {pos : Pos} {l : FrL} {v : Value} (hn : h.Ns env.locals (fr l)) (hv : fr l x = some v)
    (hk : env.scope.kind = .function := by rfl) (hl : env.kindOf x = some .local := by rfl) (hd : (x == ("__debug__" : Str)) = false := by rfl) : Ev w A env h (.Name x pos) (IsV v) :=
  fun s _ _ e hQ => nmL (hn.keeps e) hv (hQ v s.heap s.toks rfl (Ext.refl _)) hk hl hd
theorem ev_localS {x : Str} {pos : Pos} {l : FrL} {a : List Nat} {t : Tok} (hn : h.Ns env.locals (fr l)) (hv : fr l x = some (.str ⟨a.toArray⟩ t))
    (hk : env.scope.kind = .function := by rfl) (hl : env.kindOf x = some .local := by rfl) (hd : (x == ("__debug__" : Str)) = false := by rfl) : Ev w A env h (.Name x pos) (IsS a) :=
  (ev_local hn hv hk hl hd).post fun v e => ⟨t, e⟩
theorem ev_localI {x : Str} {pos : Pos} {l : FrL} {i : Int} {t : Tok} (hn : h.Ns env.locals (fr l)) (hv : fr l x = some (.int i t))
    (hk : env.scope.kind = .function := by rfl) (hl : env.kindOf x = some .local := by rfl) (hd : (x == ("__debug__" : Str)) = false := by rfl) : Ev w A env h (.Name x pos) (IsI i) :=
  (ev_local hn hv hk hl hd).post fun v e => ⟨t, e⟩
theorem ev_global {x : Str} {pos : Pos} {mg : Str → Option Value} {v : Value} (hn : h.Ns env.globals mg) (hv : mg x = some v)
    (hk : env.scope.kind = .function := by rfl) (hl : env.kindOf x = some .globalImplicit := by rfl) (hd : (x == ("__debug__" : Str)) = false := by rfl) : Ev w A env h (.Name x pos) (IsV v) :=
  fun s _ _ e hQ => nmG (hn.keeps e) hv (hQ v s.heap s.toks rfl (Ext.refl _)) hk hl hd
theorem ev_builtin {x : Str} {pos : Pos} {mg mb : Str → Option Value} {v : Value} (hg : h.Ns env.globals mg) (hb : h.Ns env.builtins mb) (hm : mg x = none) (hv : mb x = some v)
    (hk : env.scope.kind = .function := by rfl) (hl : env.kindOf x = some .globalImplicit := by rfl) (hd : (x == ("__debug__" : Str)) = false := by rfl) : Ev w A env h (.Name x pos) (IsV v) :=
  fun s _ _ e hQ => nmB (hg.keeps e) (hb.keeps e) hm hv (hQ v s.heap s.toks rfl (Ext.refl _)) hk hl hd
theorem ev_int {i : Int} {k : Nat} {pos : Pos} : Ev w A env h (.Constant (.int i) k pos) (IsI i) :=
  fun s _ _ _ hQ => wpAny_Constant_int (hQ _ s.heap _ ⟨_, rfl⟩ (Ext.refl _))
theorem ev_str {x : Str} {k : Nat} {pos : Pos} {a : List Nat} (e : x = ⟨a.toArray⟩ := by rfl) : Ev w A env h (.Constant (.str x) k pos) (IsS a) :=
  fun s _ _ _ hQ => Constant_str (hQ _ s.heap _ ⟨_, by rw [e]⟩ (Ext.refl _))
theorem ev_none {k : Nat} {pos : Pos} : Ev w A env h (.Constant .none k pos) (IsV .none) :=
  fun s _ _ _ hQ => wpAny_pure (hQ _ s.heap s.toks rfl (Ext.refl _))
theorem ev_binop {l r : Expr} {op : Operator} {pos : Pos} {Va Vb V : Value → Prop} (ha : Ev w A env h l Va) (hb : Ev w A env h r Vb)
    (q : ∀ a b, Va a → Vb b → Co w A (binaryOp op a b) h V) : Ev w A env h (.BinOp l op r pos) V := by
  intro s Q E hI hQ
  refine wpAny_BinOp (ha s _ E hI fun a h₁ k₁ hv₁ e₁ => ?_)
  refine hb _ _ E (hI.trans e₁) fun b h₂ k₂ hv₂ e₂ => ?_
  exact q a b hv₁ hv₂ _ _ E ((hI.trans e₁).trans e₂) fun v h₃ k₃ hv₃ e₃ => hQ v h₃ k₃ hv₃ ((e₁.trans e₂).trans e₃)
theorem ev_cmp {l r : Expr} {op : CmpOp} {pos : Pos} {Va Vb V : Value → Prop} (ha : Ev w A env h l Va) (hb : Ev w A env h r Vb)
    (q : ∀ a b, Va a → Vb b → Co w A (compareOp op a b) h V) (hm : behindInMarks op r = false := by rfl) : Ev w A env h (.Compare l [op] [r] pos) V := by
  intro s Q E hI hQ
  refine wpAny_Compare1 (ha s _ E hI fun a h₁ k₁ hv₁ e₁ => ?_) hm
  refine hb _ _ E (hI.trans e₁) fun b h₂ k₂ hv₂ e₂ => ?_
  exact q a b hv₁ hv₂ _ _ E ((hI.trans e₁).trans e₂) fun v h₃ k₃ hv₃ e₃ => hQ v h₃ k₃ hv₃ ((e₁.trans e₂).trans e₃)
theorem te_cmp {l r : Expr} {op : CmpOp} {pos : Pos} {Va Vb : Value → Prop} {c : Bool} (ha : Ev w A env h l Va) (hb : Ev w A env h r Vb)
    (q : ∀ a b, Va a → Vb b → Co w A (compareOp op a b) h (IsB c)) (hm : behindInMarks op r = false := by rfl) : Te w A env h (.Compare l [op] [r] pos) c := by
  intro s Q E hI hQ
  refine wpAny_isTrue_Compare1 (ha s _ E hI fun a h₁ k₁ hv₁ e₁ => ?_) hm
  refine hb _ _ E (hI.trans e₁) fun b h₂ k₂ hv₂ e₂ => ?_
  refine q a b hv₁ hv₂ _ _ E ((hI.trans e₁).trans e₂) fun v h₃ k₃ hv₃ e₃ => ?_
  obtain rfl := hv₃
  exact wpAny_truthy_bool (hQ c h₃ k₃ rfl ((e₁.trans e₂).trans e₃))
end

/-! ## the operators -/
section
variable {w : World} {A : Around} {h : Heap} {env : Env} {l r : Expr} {pos : Pos}
theorem S_len (a : List Nat) : (PySem.Str.mk a.toArray).length = a.length := by
  show a.toArray.size = _; simp
theorem S_app (a b : List Nat) : (PySem.Str.mk a.toArray) ++ (PySem.Str.mk b.toArray) = PySem.Str.mk (a ++ b).toArray := by
  apply Str.ext'
  rw [Str.cps_append]
  simp
theorem add_str {a b : List Nat} (ha : Ev w A env h l (IsS a)) (hb : Ev w A env h r (IsS b)) (hsz : a.length + b.length ≤ sizeLine) : Ev w A env h (.BinOp l .Add r pos) (IsS (a ++ b)) := by
  refine ev_binop ha hb ?_
  rintro _ _ ⟨t, rfl⟩ ⟨u, rfl⟩
  exact Co.still fun s Q E hQ => SB.add (fun t' k => by rw [S_app]; exact hQ _ k ⟨t', rfl⟩) (by rw [S_len, S_len]; exact hsz)
theorem add_i {a b : Int} (ha : Ev w A env h l (IsI a)) (hb : Ev w A env h r (IsI b)) : Ev w A env h (.BinOp l .Add r pos) (IsI (a + b)) := by
  refine ev_binop ha hb ?_
  rintro _ _ ⟨t, rfl⟩ ⟨u, rfl⟩
  exact Co.still fun s Q E hQ => add_int (hQ _ _ ⟨_, rfl⟩)
theorem sub_i {a b : Int} (ha : Ev w A env h l (IsI a)) (hb : Ev w A env h r (IsI b)) : Ev w A env h (.BinOp l .Sub r pos) (IsI (a - b)) := by
  refine ev_binop ha hb ?_
  rintro _ _ ⟨t, rfl⟩ ⟨u, rfl⟩
  exact Co.still fun s Q E hQ => sub_int (hQ _ _ ⟨_, rfl⟩)
end
end Mine

/-! ### QO -/
open PySem PySem.W PyProof.Rows PySem.Calls
set_option Elab.async false
set_option maxRecDepth 100000
set_option maxHeartbeats 4000000
set_option linter.unusedVariables false
namespace Mine

section
variable {w : World} {A : Around} {h : Heap} {env : Env} {l r : Expr} {pos : Pos}
theorem mod_i {a b : Int} (ha : Ev w A env h l (IsI a)) (hb : Ev w A env h r (IsI b)) (h0 : b ≠ 0) : Ev w A env h (.BinOp l .Mod r pos) (IsI (a.fmod b)) := by
  refine ev_binop ha hb ?_
  rintro _ _ ⟨t, rfl⟩ ⟨u, rfl⟩
  exact Co.still fun s Q E hQ => mod_int' h0 (hQ _ _ ⟨_, rfl⟩)
theorem div_i {a b : Int} (ha : Ev w A env h l (IsI a)) (hb : Ev w A env h r (IsI b)) (h0 : b ≠ 0) (hd : Builtin.divisionGoesByPylong a b = false) : Ev w A env h (.BinOp l .FloorDiv r pos) (IsI (a.fdiv b)) := by
  refine ev_binop ha hb ?_
  rintro _ _ ⟨t, rfl⟩ ⟨u, rfl⟩
  exact Co.still fun s Q E hQ => floordiv_int h0 (hQ _ _ ⟨_, rfl⟩) (.inl hd)

theorem S_inj {a b : List Nat} : (PySem.Str.mk a.toArray = PySem.Str.mk b.toArray) ↔ a = b := by
  constructor
  · intro e
    have := congrArg (fun x : PySem.Str => x.cps.toList) e
    simpa using this
  · rintro rfl; rfl

theorem te_eqS {a b : List Nat} (ha : Ev w A env h l (IsS a)) (hb : Ev w A env h r (IsS b)) (hm : behindInMarks .Eq r = false := by rfl) : Te w A env h (.Compare l [.Eq] [r] pos) (decide (a = b)) := by
  refine te_cmp ha hb ?_ hm
  rintro _ _ ⟨t, rfl⟩ ⟨u, rfl⟩
  exact Co.still fun s Q E hQ => eq_str (hQ _ _ (by
    show Value.bool _ = Value.bool _
    congr 1
    by_cases e : a = b
    · subst e; simp
    · have : ¬ (PySem.Str.mk a.toArray = PySem.Str.mk b.toArray) := fun q => e (S_inj.mp q)
      simp [this, e]))
theorem te_neS {a b : List Nat} (ha : Ev w A env h l (IsS a)) (hb : Ev w A env h r (IsS b)) (hm : behindInMarks .NotEq r = false := by rfl) : Te w A env h (.Compare l [.NotEq] [r] pos) (decide (a ≠ b)) := by
  refine te_cmp ha hb ?_ hm
  rintro _ _ ⟨t, rfl⟩ ⟨u, rfl⟩
  exact Co.still fun s Q E hQ => PySem.P.ne_str (hQ _ _ (by
    show Value.bool _ = Value.bool _
    congr 1
    by_cases e : a = b <;> simp [e]))
theorem te_eqI {a b : Int} (ha : Ev w A env h l (IsI a)) (hb : Ev w A env h r (IsI b)) (hm : behindInMarks .Eq r = false := by rfl) : Te w A env h (.Compare l [.Eq] [r] pos) (decide (a = b)) := by
  refine te_cmp ha hb ?_ hm
  rintro _ _ ⟨t, rfl⟩ ⟨u, rfl⟩
  exact Co.still fun s Q E hQ => eq_int (hQ _ _ (by show Value.bool _ = Value.bool _; congr 1))
theorem te_neI {a b : Int} (ha : Ev w A env h l (IsI a)) (hb : Ev w A env h r (IsI b)) (hm : behindInMarks .NotEq r = false := by rfl) : Te w A env h (.Compare l [.NotEq] [r] pos) (decide (a ≠ b)) := by
  refine te_cmp ha hb ?_ hm
  rintro _ _ ⟨t, rfl⟩ ⟨u, rfl⟩
  exact Co.still fun s Q E hQ => PyProof.Rows.ne_int (hQ _ _ (by show Value.bool _ = Value.bool _; congr 1; by_cases e : a = b <;> simp [e]))
theorem te_ltI {a b : Int} (ha : Ev w A env h l (IsI a)) (hb : Ev w A env h r (IsI b)) (hm : behindInMarks .Lt r = false := by rfl) : Te w A env h (.Compare l [.Lt] [r] pos) (decide (a < b)) := by
  refine te_cmp ha hb ?_ hm
  rintro _ _ ⟨t, rfl⟩ ⟨u, rfl⟩
  exact Co.still fun s Q E hQ => PyProof.Rows.lt_int (hQ _ _ rfl)
theorem te_gtI {a b : Int} (ha : Ev w A env h l (IsI a)) (hb : Ev w A env h r (IsI b)) (hm : behindInMarks .Gt r = false := by rfl) : Te w A env h (.Compare l [.Gt] [r] pos) (decide (b < a)) := by
  refine te_cmp ha hb ?_ hm
  rintro _ _ ⟨t, rfl⟩ ⟨u, rfl⟩
  exact Co.still fun s Q E hQ => PyProof.Rows.gt_int (hQ _ _ rfl)
theorem te_leI {a b : Int} (ha : Ev w A env h l (IsI a)) (hb : Ev w A env h r (IsI b)) (hm : behindInMarks .LtE r = false := by rfl) : Te w A env h (.Compare l [.LtE] [r] pos) (decide (a ≤ b)) := by
  refine te_cmp ha hb ?_ hm
  rintro _ _ ⟨t, rfl⟩ ⟨u, rfl⟩
  exact Co.still fun s Q E hQ => PySem.P.le_int (hQ _ _ rfl)
theorem te_geI {a b : Int} (ha : Ev w A env h l (IsI a)) (hb : Ev w A env h r (IsI b)) (hm : behindInMarks .GtE r = false := by rfl) : Te w A env h (.Compare l [.GtE] [r] pos) (decide (b ≤ a)) := by
  refine te_cmp ha hb ?_ hm
  rintro _ _ ⟨t, rfl⟩ ⟨u, rfl⟩
  exact Co.still fun s Q E hQ => PySem.P.ge_int (hQ _ _ (by show Value.bool _ = Value.bool _; congr 1))

/-! tests -/
theorem te_and {x y : Expr} {a b : Bool} (hx : Te w A env h x a) (hy : a = true → Te w A env h y b) : Te w A env h (.BoolOp .And [x, y] pos) (a && b) := by
  intro s Q E hI hQ
  refine isTrue_and (hx s _ E hI fun c h' tk hc he => ?_)
  subst hc
  cases c with
  | false => exact hQ _ _ _ rfl he
  | true =>
    show wpAny _ _ _ _ _ _
    refine isTrue_and (hy rfl _ _ E (hI.trans he) fun c h'' tk' hc he' => ?_)
    subst hc
    cases c with
    | false => exact hQ _ _ _ rfl (he.trans he')
    | true => exact isTrue_and_nil (hQ _ _ _ rfl (he.trans he'))
theorem te_and3 {x y z : Expr} {a b d : Bool} (hx : Te w A env h x a) (hy : a = true → Te w A env h y b) (hz : a = true → b = true → Te w A env h z d) : Te w A env h (.BoolOp .And [x, y, z] pos) (a && b && d) := by
  intro s Q E hI hQ
  refine isTrue_and (hx s _ E hI fun c h' tk hc he => ?_)
  subst hc
  cases c with
  | false => exact hQ _ _ _ rfl he
  | true =>
    show wpAny _ _ _ _ _ _
    refine isTrue_and (hy rfl _ _ E (hI.trans he) fun c h'' tk' hc he' => ?_)
    subst hc
    cases c with
    | false => exact hQ _ _ _ rfl (he.trans he')
    | true =>
      show wpAny _ _ _ _ _ _
      refine isTrue_and (hz rfl rfl _ _ E ((hI.trans he).trans he') fun c h3 tk3 hc he3 => ?_)
      subst hc
      cases c with
      | false => exact hQ _ _ _ rfl ((he.trans he').trans he3)
      | true => exact isTrue_and_nil (hQ _ _ _ rfl ((he.trans he').trans he3))
theorem te_or {x y : Expr} {a b : Bool} (hx : Te w A env h x a) (hy : a = false → Te w A env h y b) : Te w A env h (.BoolOp .Or [x, y] pos) (a || b) := by
  intro s Q E hI hQ
  refine isTrue_or (hx s _ E hI fun c h' tk hc he => ?_)
  subst hc
  cases c with
  | true => exact hQ _ _ _ rfl he
  | false =>
    show wpAny _ _ _ _ _ _
    refine isTrue_or (hy rfl _ _ E (hI.trans he) fun c h'' tk' hc he' => ?_)
    subst hc
    cases c with
    | true => exact hQ _ _ _ rfl (he.trans he')
    | false => exact isTrue_or_nil (hQ _ _ _ rfl (he.trans he'))
theorem te_not {x : Expr} {a : Bool} (hx : Te w A env h x a) : Te w A env h (.UnaryOp .Not x pos) (!a) := by
  intro s Q E hI hQ
  exact isTrue_not (hx s _ E hI fun c h' tk hc he => hQ _ _ _ (by rw [hc]) he)
theorem te_nameS {x : Str} {a : List Nat} (hx : Ev w A env h (.Name x pos) (IsS a)) (hsz : a.length < 2 ^ 62) : Te w A env h (.Name x pos) (decide (a ≠ [])) := by
  intro s Q E hI hQ
  refine isTrue_plain (hx s _ E hI fun v h' tk hv he => ?_)
  obtain ⟨t, rfl⟩ := hv
  refine PySem.P.truthy_str ?_ (hQ _ _ _ ?_ he)
  · rw [S_len]; omega
  · rw [S_len]
    cases a with
    | nil => rfl
    | cons x r => simp; omega
theorem ev_ifexp {t b o : Expr} {c : Bool} {V : Value → Prop} (ht : Te w A env h t c) (hb : c = true → Ev w A env h b V) (ho : c = false → Ev w A env h o V) : Ev w A env h (.IfExp t b o pos) V := by
  intro s Q E hI hQ
  refine IfExp_ (ht s _ E hI fun d h' tk hd he => ?_)
  subst hd
  cases d with
  | true => exact hb rfl _ _ E (hI.trans he) fun v h'' tk' hv he' => hQ v h'' tk' hv (he.trans he')
  | false => exact ho rfl _ _ E (hI.trans he) fun v h'' tk' hv he' => hQ v h'' tk' hv (he.trans he')
end
end Mine

/-! ### QT -/
open PySem PySem.W PyProof.Rows PySem.Calls
set_option Elab.async false
set_option maxRecDepth 100000
set_option maxHeartbeats 4000000
set_option linter.unusedVariables false
namespace Mine

/-! ## cuts of texts -/
noncomputable def clipN (n : Nat) (i : Int) : Nat := (max 0 (min (if i < 0 then i + n else i) n)).toNat
noncomputable def sl (a : List Nat) (l u : Option Int) : List Nat :=
  (a.take ((u.map (clipN a.length)).getD a.length)).drop ((l.map (clipN a.length)).getD 0)
theorem clipN_le (n : Nat) (i : Int) : clipN n i ≤ n := by unfold clipN; omega
theorem range_pick (a : List Nat) (i c : Nat) (hc : i + c ≤ a.length) :
    (((List.range c).map fun k => i + k).filterMap (a.toArray[·]?)) = (a.drop i).take c := by
  induction c with
  | zero => simp
  | succ c ih =>
    rw [List.range_succ, List.map_append, List.filterMap_append, ih (by omega)]
    have hlt : i + c < a.length := by omega
    rw [List.take_add_one]
    simp [hlt]
theorem picked (a : List Nat) (l u : Option Int) : ((Builtin.Str.strSliceIndices l u 1 a.length).filterMap (a.toArray[·]?)) = sl a l u := by
  unfold Builtin.Str.strSliceIndices sliceRange sl
  simp only [show (1 : Int) > 0 from by decide, if_true]
  have key : ∀ (x y : Nat), x ≤ a.length → y ≤ a.length → List.filterMap (fun x => a.toArray[x]?) (List.map (fun k : Nat => ((x : Int) + 1 * (k : Int)).toNat)
      (List.range (if (x : Int) < y then ((y : Int) - x + 1 - 1) / 1 else 0).toNat)) = List.drop x (List.take y a) := by
    intro x y hx hy
    have e1 : (fun k : Nat => ((x : Int) + 1 * (k : Int)).toNat) = fun k => x + k := by funext k; omega
    have e2 : (if (x : Int) < y then ((y : Int) - x + 1 - 1) / 1 else 0).toNat = y - x := by
      rw [Int.ediv_one]
      split <;> omega
    rw [e1, e2, range_pick a x (y - x) (by omega), List.drop_take]
  have cl : ∀ i : Int, (max 0 (min (if i < 0 then i + (a.length : Int) else i) a.length)) = ((clipN a.length i : Nat) : Int) := by
    intro i; unfold clipN; omega
  cases l with
  | none =>
    cases u with
    | none => simpa using key 0 a.length (Nat.zero_le _) (Nat.le_refl _)
    | some j =>
      simp only [cl, Option.map_none, Option.map_some, Option.getD_none, Option.getD_some]
      simpa using key 0 (clipN a.length j) (Nat.zero_le _) (clipN_le _ _)
  | some i =>
    cases u with
    | none =>
      simp only [cl, Option.map_none, Option.map_some, Option.getD_none, Option.getD_some]
      exact key (clipN a.length i) a.length (clipN_le _ _) (Nat.le_refl _)
    | some j =>
      simp only [cl, Option.map_none, Option.map_some, Option.getD_none, Option.getD_some]
      exact key (clipN a.length i) (clipN a.length j) (clipN_le _ _) (clipN_le _ _)
theorem sl_le (a : List Nat) (l u : Option Int) : (sl a l u).length ≤ a.length := by
  unfold sl; simp; omega
theorem picked_len (a : List Nat) (l u : Option Int) : (Builtin.Str.strSliceIndices l u 1 a.length).length = (sl a l u).length := by
  unfold Builtin.Str.strSliceIndices sliceRange sl
  simp only [show (1 : Int) > 0 from by decide, if_true]
  have key : ∀ (x y : Nat), x ≤ a.length → y ≤ a.length → (List.map (fun k : Nat => ((x : Int) + 1 * (k : Int)).toNat)
      (List.range (if (x : Int) < y then ((y : Int) - x + 1 - 1) / 1 else 0).toNat)).length = (List.drop x (List.take y a)).length := by
    intro x y hx hy
    have e2 : (if (x : Int) < y then ((y : Int) - x + 1 - 1) / 1 else 0).toNat = y - x := by
      rw [Int.ediv_one]
      split <;> omega
    rw [List.length_map, List.length_range, e2, List.length_drop, List.length_take, Nat.min_eq_left hy]
  have cl : ∀ i : Int, (max 0 (min (if i < 0 then i + (a.length : Int) else i) a.length)) = ((clipN a.length i : Nat) : Int) := by
    intro i; unfold clipN; omega
  cases l with
  | none =>
    cases u with
    | none => simpa using key 0 a.length (Nat.zero_le _) (Nat.le_refl _)
    | some j =>
      simp only [cl, Option.map_none, Option.map_some, Option.getD_none, Option.getD_some]
      simpa using key 0 (clipN a.length j) (Nat.zero_le _) (clipN_le _ _)
  | some i =>
    cases u with
    | none =>
      simp only [cl, Option.map_none, Option.map_some, Option.getD_none, Option.getD_some]
      exact key (clipN a.length i) a.length (clipN_le _ _) (Nat.le_refl _)
    | some j =>
      simp only [cl, Option.map_none, Option.map_some, Option.getD_none, Option.getD_some]
      exact key (clipN a.length i) (clipN a.length j) (clipN_le _ _) (clipN_le _ _)
theorem sl_whole {a : List Nat} {l u : Option Int} (e : (sl a l u).length = a.length) : sl a l u = a := by
  unfold sl at e ⊢
  have h1 : ((l.map (clipN a.length)).getD 0) = 0 ∨ a = [] := by
    simp only [List.length_drop, List.length_take] at e
    rcases Nat.eq_zero_or_pos ((l.map (clipN a.length)).getD 0) with h | h
    · exact .inl h
    · right
      apply List.eq_nil_of_length_eq_zero
      omega
  rcases h1 with h1 | h1
  · rw [h1] at e ⊢
    simp only [List.drop_zero, List.length_take] at e ⊢
    exact List.take_of_length_le (by omega)
  · subst h1; simp
theorem slice_S (a : List Nat) (l u : Option Int) : Txt.slice ⟨a.toArray⟩ l u = ⟨(sl a l u).toArray⟩ := by
  unfold Txt.slice
  have hl : (PySem.Str.mk a.toArray).length = a.length := S_len a
  rw [hl]
  split
  · rename_i h
    simp only [Bool.and_eq_true, beq_iff_eq] at h
    rw [picked_len] at h
    rw [sl_whole h.2]
  · show PySem.Str.mk (List.filterMap (fun x => a.toArray[x]?) _).toArray = _
    rw [picked]

section
variable {w : World} {A : Around} {h : Heap} {env : Env} {l r : Expr} {pos p : Pos}
/-- the parts of a cut -/
noncomputable def Pt (w : World) (A : Around) (env : Env) (h : Heap) (e : Option Expr) (i : Option Int) : Prop := Co w A (evalPart e env) h fun v => ∃ q : Option (Int × Tok), v = partValue q ∧ q.map (·.1) = i
theorem pt_none : Pt w A env h none none := Co.pure ⟨none, rfl, rfl⟩
theorem pt_some {e : Expr} {i : Int} (x : Ev w A env h e (IsI i)) : Pt w A env h (some e) (some i) := Co.post x fun v ⟨t, e⟩ => ⟨some (i, t), e, rfl⟩
theorem ev_slice {value : Expr} {lo up : Option Expr} {a : List Nat} {i j : Option Int} (hv : Ev w A env h value (IsS a)) (hl : Pt w A env h lo i) (hu : Pt w A env h up j) (hsz : a.length ≤ sizeLine)
    (ht : ∀ x t r, letTemporaryGo value (.str x t) r = pure () := by intro _ _ _; rfl) : Ev w A env h (.Subscript value (.Slice lo up none p) pos) (IsS (sl a i j)) := by
  intro s Q E hI hQ
  rw [eval_Subscript]
  refine wpAny_bind (hv s _ E hI fun v h₁ k₁ hv₁ e₁ => ?_)
  obtain ⟨t, rfl⟩ := hv₁
  refine wpAny_bind (wpAny_holding (wpAny_Slice (hl _ _ E (hI.trans e₁) fun vl h₂ k₂ hv₂ e₂ => ?_)))
  obtain ⟨ql, rfl, hql⟩ := hv₂
  refine hu _ _ E ((hI.trans e₁).trans e₂) fun vu h₃ k₃ hv₃ e₃ => ?_
  obtain ⟨qu, rfl, hqu⟩ := hv₃
  rw [evalPart_none]
  refine wpAny_pure ?_
  refine wpAny_bind (wpAny_standAt ?_)
  have hT : ∀ s' : Shared, s'.TypeIs (.str ⟨a.toArray⟩ t) "str" := fun s' => typeIs_str _ _ _
  have fin : ∀ (S : Shared) (b : Addr), S.heap.IsSlice b ql qu none → Ext s.heap S.heap → (∃ q k, S = { s with heap := q, toks := k }) →
      wpAny (model P w) A (operate [.ref b, .str ⟨a.toArray⟩ t] (getItem (.str ⟨a.toArray⟩ t) (.ref b))) (fun r s₃ => wpAny (model P w) A (letTemporaryGo value (.str ⟨a.toArray⟩ t) r >>= fun _ => pure r) Q E s₃) E S := by
    intro S b hs he ⟨q, k, hS⟩
    subst hS
    refine wpAny_operating (wpAny_getItem_str_slice hs rfl ?_)
    have hp : slicePicked ⟨a.toArray⟩ ql qu none = Builtin.Str.strSliceIndices i j 1 a.length := by
      unfold slicePicked
      rw [hql, hqu, S_len]; rfl
    have hm : ∀ t', Q (.str ⟨(sl a i j).toArray⟩ t') { s with heap := q, toks := k } → True := fun _ _ => trivial
    unfold sliceMade
    rw [hp, S_len]
    split
    · rename_i hc
      simp only [Option.map_none, Option.getD_none, beq_self_eq_true, Bool.true_and, beq_iff_eq] at hc
      rw [picked_len] at hc
      have hw := sl_whole hc
      show wpAny _ _ _ _ _ _
      refine wpAny_bind (wpAny_of_eq (ht _ _ _) (wpAny_pure ?_))
      have := hQ (.str ⟨a.toArray⟩ t) q k ⟨t, by rw [hw]⟩ he
      exact this
    · rename_i hc
      have ep : List.filterMap (fun x => (PySem.Str.mk a.toArray).cps[x]?) (Builtin.Str.strSliceIndices i j 1 a.length) = sl a i j := picked a i j
      rw [ep]
      refine ⟨?_, ?_⟩
      · show (sl a i j).toArray.size ≤ sizeLine
        rw [List.size_toArray]
        exact Nat.le_trans (sl_le a i j) hsz
      · show wpAny _ _ _ _ _ _
        refine wpAny_bind (wpAny_of_eq (ht _ _ _) (wpAny_pure ?_))
        exact hQ _ q _ ⟨_, rfl⟩ he
  have hsl : (h₃.push { cls := .type "slice", data := .fields #[partValue ql, partValue qu, .none] }).IsSlice h₃.objs.size ql qu none := ⟨_, Heap.get?_push_size _ rfl, rfl, rfl⟩
  have := fin { s with heap := h₃.push { cls := .type "slice", data := .fields #[partValue ql, partValue qu, .none] }, toks := k₃ } h₃.objs.size hsl (((e₁.trans e₂).trans e₃).trans (Ext.push _ _)) ⟨_, _, rfl⟩
  refine wpAny_bind ?_
  rw [getitemInPython_of_ne (hT s).not_modules]
  refine wpAny_bind (wpAny_specialOf (hT _) F.slot_str_getitem.lookup ?_)
  first
    | exact wpAny_pure (wpAny_bind this)
    | exact wpAny_bind (wpAny_pure (wpAny_bind this))
    | exact wpAny_bind this
end
end Mine

/-! ### QI -/
open PySem PySem.W PyProof.Rows PySem.Calls
set_option Elab.async false
set_option maxRecDepth 100000
set_option maxHeartbeats 4000000
set_option linter.unusedVariables false
namespace Mine
section
variable {w : World} {A : Around} {h : Heap} {env : Env} {l r : Expr} {pos p : Pos}
theorem ev_item {value slice : Expr} {a : List Nat} {i : Int} {k c : Nat} (hv : Ev w A env h value (IsS a)) (hi : Ev w A env h slice (IsI i)) (hk : i = k ∨ i = (k : Int) - a.length) (hc : a[k]? = some c) (hsz : a.length < 2 ^ 62)
    (hs : ∀ x t i u, subscripted slice false (.str x t) (.int i u) = operate [.str x t, .int i u] (getItem (.str x t) (.int i u)) := by intro _ _ _ _; with_unfolding_all rfl)
    (ht : ∀ x t r, letTemporaryGo value (.str x t) r = pure () := by intro _ _ _; with_unfolding_all rfl) : Ev w A env h (.Subscript value slice pos) (IsS [c]) := by
  intro s Q E hI hQ
  have hlt : k < a.length := by
    rcases Nat.lt_or_ge k a.length with q | q
    · exact q
    · rw [List.getElem?_eq_none q] at hc; cases hc
  refine Subscript_ (hv s _ E hI fun v h₁ k₁ hv₁ e₁ => ?_)
  obtain ⟨t, rfl⟩ := hv₁
  refine hi _ _ E (hI.trans e₁) fun u h₂ k₂ hv₂ e₂ => ?_
  obtain ⟨u, rfl⟩ := hv₂
  have hsi : seqIndex? i a.length = some k := by
    unfold seqIndex?
    rcases hk with rfl | rfl
    · have : ¬ ((k : Int) < 0) := by omega
      simp only [this, if_false]
      have h1 : (0 : Int) ≤ k ∧ (k : Int) < a.length := by omega
      simp [hlt]
    · have : ((k : Int) - a.length < 0) := by omega
      simp only [this, if_true]
      have h1 : (k : Int) - a.length + a.length = k := by omega
      simp [h1, hlt]
  have hit : Txt.item ⟨a.toArray⟩ i = ⟨[c].toArray⟩ := by
    unfold Txt.item Txt.charAt
    rw [S_len, hsi]
    simp [hc]
  refine item_str (x := ⟨a.toArray⟩) ?_ ?_ ?_ (fun _ => ?_) (hs _ _ _ _) (ht _ _)
  · unfold fitsSsize
    have : -(2 ^ 63 : Int) ≤ i ∧ i < 2 ^ 63 := by omega
    simp
    omega
  · rw [S_len]; omega
  · rw [S_len]; omega
  · rw [hit]
    exact hQ _ h₂ _ ⟨_, rfl⟩ (e₁.trans e₂)
/-- one sign in a text -/
theorem te_in1 {c : Nat} {a : List Nat} (hc : Ev w A env h l (IsS [c])) (ha : Ev w A env h r (IsS a)) (hm : behindInMarks .In r = false := by rfl) : Te w A env h (.Compare l [.In] [r] pos) (decide (c ∈ a)) := by
  refine te_cmp hc ha ?_ hm
  rintro _ _ ⟨t, rfl⟩ ⟨u, rfl⟩
  exact Co.still fun s Q E hQ => SB.contains (hQ _ _ (by
    show Value.bool _ = Value.bool _
    congr 1
    have := StrLaws.found_one ⟨a.toArray⟩ c
    unfold Txt.contains
    simpa using this))
theorem te_notin1 {c : Nat} {a : List Nat} (hc : Ev w A env h l (IsS [c])) (ha : Ev w A env h r (IsS a)) (hm : behindInMarks .NotIn r = false := by rfl) : Te w A env h (.Compare l [.NotIn] [r] pos) (decide (c ∉ a)) := by
  refine te_cmp hc ha ?_ hm
  rintro _ _ ⟨t, rfl⟩ ⟨u, rfl⟩
  exact Co.still fun s Q E hQ => SB.notContains (hQ _ _ (by
    show Value.bool _ = Value.bool _
    congr 1
    have := StrLaws.found_one ⟨a.toArray⟩ c
    unfold Txt.contains
    rw [this]; simp))

/-! ## calls -/
theorem Co.call1 {f : Value} {e : Expr} {Va V : Value → Prop} {x : Str} {px : Pos} {id : String} (hf : Ev w A env h (.Name x px) (IsV (.builtin id))) (ha : Ev w A env h e Va)
    (q : ∀ v, Va v → Co w A (call (.builtin id) [v]) h V) (hs : starEach [e] env = [(false, eval e env)] := by rfl) : Ev w A env h (.Call (.Name x px) [e] [] pos) V := by
  intro s Q E hI hQ
  refine Call_ (hf s _ E hI fun fv h₁ k₁ hv₁ e₁ => ?_)
  subst hv₁
  refine callWith_builtin1 (args_cons (ha _ _ E (hI.trans e₁) fun v h₂ k₂ hv₂ e₂ => ?_) (by rw [hs]; rfl)) (by rw [hs]; rfl)
  refine args_nil ?_
  exact q v hv₂ _ _ E ((hI.trans e₁).trans e₂) fun v h₃ k₃ hv₃ e₃ => hQ v h₃ k₃ hv₃ ((e₁.trans e₂).trans e₃)
theorem ev_len {e : Expr} {x : Str} {px : Pos} {a : List Nat} (hf : Ev w A env h (.Name x px) (IsV (.builtin "len"))) (ha : Ev w A env h e (IsS a)) (hsz : a.length < 2 ^ 62)
    (hs : starEach [e] env = [(false, eval e env)] := by rfl) : Ev w A env h (.Call (.Name x px) [e] [] pos) (IsI a.length) := by
  refine Co.call1 (f := .none) hf ha ?_ hs
  rintro _ ⟨t, rfl⟩
  exact Co.still fun s Q E hQ => PySem.P.len_str (by rw [S_len]; omega) (hQ _ _ ⟨_, by rw [S_len]⟩)
theorem ev_ord {e : Expr} {x : Str} {px : Pos} {c : Nat} (hf : Ev w A env h (.Name x px) (IsV (.builtin "ord"))) (ha : Ev w A env h e (IsS [c]))
    (hs : starEach [e] env = [(false, eval e env)] := by rfl) : Ev w A env h (.Call (.Name x px) [e] [] pos) (IsI c) := by
  refine Co.call1 (f := .none) hf ha ?_ hs
  rintro _ ⟨t, rfl⟩
  exact Co.still fun s Q E hQ => PySem.P.ord_of_char (c := c) (hQ _ _ ⟨_, rfl⟩)
theorem ev_chr {e : Expr} {x : Str} {px : Pos} {c : Nat} (hf : Ev w A env h (.Name x px) (IsV (.builtin "chr"))) (ha : Ev w A env h e (IsI c)) (hc : c < 1114112)
    (hs : starEach [e] env = [(false, eval e env)] := by rfl) : Ev w A env h (.Call (.Name x px) [e] [] pos) (IsS [c]) := by
  refine Co.call1 (f := .none) hf ha ?_ hs
  rintro _ ⟨t, rfl⟩
  exact Co.still fun s Q E hQ => chr_of_range (by omega) (by omega) (hQ _ _ ⟨s.toks, by simp⟩)
end
end Mine

/-! ### QX -/
open PySem PySem.W PyProof.Rows PySem.Calls
set_option Elab.async false
set_option maxRecDepth 100000
set_option maxHeartbeats 4000000
set_option linter.unusedVariables false
namespace Mine
/-! ## int(text, 16) of two figures -/
noncomputable def hexL : List Nat := [48, 49, 50, 51, 52, 53, 54, 55, 56, 57, 97, 98, 99, 100, 101, 102, 65, 66, 67, 68, 69, 70]
noncomputable def hv (c : Nat) : Nat := if c < 58 then c - 48 else if c < 71 then c - 55 else c - 87
theorem hex_all : (hexL.map fun a => hexL.map fun b => (int_private% "readNumeral") 0 16 [a, b]) = hexL.map fun a => hexL.map fun b => (int_private% "Numeral.value") ((16 * hv a + hv b : Nat) : Int) := by rfl
theorem hex_read : ∀ a ∈ hexL, ∀ b ∈ hexL, (int_private% "readNumeral") 0 16 [a, b] = (int_private% "Numeral.value") ((16 * hv a + hv b : Nat) : Int) :=
  fun a ha b hb => List.map_inj_left.mp (List.map_inj_left.mp hex_all a ha) b hb
theorem hex_low : ∀ a ∈ hexL, a < 128 ∧ a ≠ 0 := by decide
theorem wp_text16 {M : Model} {A : Around} {E : Value → Shared → Prop} {s : Shared} {Q : Value → Shared → Prop} {v : Value} {a b : Nat} (ha : a ∈ hexL) (hb : b ∈ hexL)
    (h : Q (.int ((16 * hv a + hv b : Nat) : Int) s.toks) { s with toks := s.toks + 1 }) :
    wpAny M A ((int_private% "intFromText") v [a, b] 16) Q E s := by
  obtain ⟨hp, g, d, tk, os⟩ := s
  have h1 : ([a, b].takeWhile (· != 0)) = [a, b] := by
    have := (hex_low a ha).2
    have := (hex_low b hb).2
    simp [*]
  have hr := hex_read a ha b hb
  have hs : ([a, b].takeWhile (· != 0)).length ≤ 640 := by rw [h1]; simp
  have hl : (([a, b].takeWhile (· != 0)).length == [a, b].length) = true := by rw [h1]; rfl
  rw [← h1] at hr
  repeat (any_goals (first
    | assumption
    | (with_reducible refine wpAny_ite_true (decide_eq_true hs) ?_)
    | (with_reducible refine wpAny_ite_true (decide_eq_true hl) ?_)
    | wp_step))
  all_goals (try rw [hr])
  all_goals (try dsimp only)
  repeat (any_goals (first
    | assumption
    | (with_reducible refine wpAny_ite_true (decide_eq_true hs) ?_)
    | (with_reducible refine wpAny_ite_true (decide_eq_true hl) ?_)
    | wp_step))
theorem typeCall_int_2 (a b : Value) : checkTypeCall "int" ⟨[a, b], []⟩ = pure () := by kernel_rfl
theorem newCall_int_2 (a b : Value) : checkBuiltinCall "int.__new__" ⟨[.type "int", a, b], []⟩ = pure () := by kernel_rfl
theorem args_object_init_3 (a b c : Value) : argsOk "object.__init__" ⟨[a, b, c], []⟩ := by unfold argsOk; kernel_rfl
theorem gives_hex {a b : Nat} {u v : Tok} (ha : a ∈ hexL) (hb : b ∈ hexL) : Gives (Builtin.«int.__new__» ⟨[.type "int", .str ⟨[a, b].toArray⟩ u, .int 16 v], []⟩) (.int ((16 * hv a + hv b : Nat) : Int)) :=
  .of_wp fun M A E s Q h => by
    obtain ⟨hp, g, d, tk, os⟩ := s
    have f1 := F.conv_sub_int
    have f2 := F.madeHere_int
    have h7 : ([a, b].toArray.all (· < 128)) = true := by
      have := (hex_low a ha).1
      have := (hex_low b hb).1
      simp [*]
    repeat (any_goals (first
      | assumption
      | ((with_reducible show wpAny _ _ ((int_private% "intFromText") _ _ _) _ _ _); rw [if_pos h7]; refine wp_text16 ha hb ?_)
      | wp_step))
    all_goals first | exact ⟨_, rfl, h⟩ | skip
section
variable {w : World} {A : Around} {h : Heap} {env : Env} {pos : Pos}
theorem co_int16 {a b : Nat} {u v : Tok} (ha : a ∈ hexL) (hb : b ∈ hexL) : Co w A (call (.type "int") [.str ⟨[a, b].toArray⟩ u, .int 16 v]) h (IsI ((16 * hv a + hv b : Nat) : Int)) :=
  Co.still fun s Q E hQ => callType_new F.called_int F.newNe_int (typeCall_int_2 _ _) (newCall_int_2 _ _) (fun obj => args_object_init_3 obj _ _) F.entry_int_new (gives_hex ha hb).meets
    (show (Made.int ((16 * hv a + hv b : Nat) : Int)).post _ s from ⟨rfl, hQ _ _ ⟨_, rfl⟩⟩)
end
end Mine

/-! ### QY -/
open PySem PySem.W PyProof.Rows PySem.Calls
set_option Elab.async false
set_option maxRecDepth 100000
set_option maxHeartbeats 4000000
set_option linter.unusedVariables false
namespace Mine
open Builtin Builtin.Str
section
variable {w : World} {A : Around} {h : Heap} {T : Addr} {items : Array Value} {tr : Nat → List Nat}
theorem co_look {c : Nat} (hl : h.IsList T items) (hc : c < 2 ^ 62) (hx : ∃ t, items[c]? = some (.str ⟨(tr c).toArray⟩ t)) : Co w A (tableLookup (.ref T) c) h fun m => m = .text ⟨(tr c).toArray⟩ := by
  obtain ⟨t, hx⟩ := hx
  intro s Q E hI hQ
  unfold tableLookup
  refine wpAny_bind (wpAny_attempt ?_)
  refine wpAny_bind (m := mkInt c) (wpAny_mkInt ?_)
  refine wpAny_getItem_list (s := { s with toks := s.toks + 1 }) (hl.at fun o q => hI _ o q) (by omega) (by omega) (by simpa using hx) ?_
  exact wpAny_pure (hQ _ s.heap _ rfl (Ext.refl _))
theorem lookup_cons_some {α : Type} {c k : Nat} {v : α} {r : List (Nat × α)} {a : α} (e : ((k, v) :: r).lookup c = some a) : (c = k ∧ v = a) ∨ r.lookup c = some a := by
  rw [List.lookup_cons] at e
  cases q : c == k with
  | true => rw [q] at e; exact .inl ⟨beq_iff_eq.mp q, Option.some.inj e⟩
  | false => rw [q] at e; exact .inr e

noncomputable def glue (l : List Str) : Array Nat := l.foldl (fun acc p => acc ++ p.cps) #[]
theorem glue_app (l : List Str) : ∀ a : Array Nat, l.foldl (fun acc p => acc ++ p.cps) a = a ++ (l.flatMap fun p => p.cps.toList).toArray := by
  induction l with
  | nil => intro a; simp
  | cons x r ih => intro a; rw [List.foldl_cons, ih]; simp [Array.append_assoc]; rw [← Array.toList_inj]; simp

structure TrI (tr : Nat → List Nat) (a rest : List Nat) (b : List Str × Nat × Bool × List (Nat × Option Nat) × Bool) : Prop where
  done : ∃ pre, a = pre ++ rest ∧ (b.1.reverse.flatMap fun p => p.cps.toList) = pre.flatMap tr
  total : b.2.1 = (b.1.reverse.flatMap fun p => p.cps.toList).length
  known : ∀ c o, b.2.2.2.1.lookup c = some o → ∃ d, o = some d ∧ tr c = [d]
  drop : b.2.2.2.2 = false
theorem TrI.push {tr : Nat → List Nat} {a rest : List Nat} {c : Nat} {pieces : List Str} {total : Nat} {fast fast' : Bool} {known known' : List (Nat × Option Nat)} {x : Str}
    (h : TrI tr a (c :: rest) (pieces, total, fast, known, false)) (hx : x.cps.toList = tr c) (hk : ∀ c o, known'.lookup c = some o → ∃ d, o = some d ∧ tr c = [d]) :
    TrI tr a rest (x :: pieces, total + x.length, fast', known', false) := by
  obtain ⟨⟨pre, e1, e2⟩, e3, e4, e5⟩ := h
  refine ⟨⟨pre ++ [c], by simp [e1], ?_⟩, ?_, hk, rfl⟩
  · simp only [List.reverse_cons, List.flatMap_append, List.flatMap_cons, List.flatMap_nil, List.append_nil]
    rw [hx]
    exact congrArg (· ++ tr c) e2
  · simp only [List.reverse_cons, List.flatMap_append, List.flatMap_cons, List.flatMap_nil, List.append_nil, List.length_append]
    simp only at e3
    rw [← e3]
    congr 1

theorem co_translate {a : List Nat} {t : Tok} (hl : h.IsList T items) (hne : a ≠ []) (hc : ∀ c ∈ a, c < 2 ^ 62 ∧ ∃ t, items[c]? = some (.str ⟨(tr c).toArray⟩ t)) (hsz : (a.flatMap tr).length < sizeLine) :
    Co w A (call (.builtin "str.translate") [.str ⟨a.toArray⟩ t, .ref T]) h (IsS (a.flatMap tr)) := by
  intro s Q E hI hQ
  refine wpAny_call (codeAny_call_builtin F.slot_str_translate.plain F.entry_str_translate (F.slot_str_translate.check _ _ _ _ _ _ _ _ (typeIs_str _ _ _) (F.args_str_translate_2 _ _) ?_))
  unfold Builtin.«str.translate»
  refine wpAny_bind (m := strOneArg "translate" ⟨[.str ⟨a.toArray⟩ t, .ref T], []⟩) (wpAny_of_eq (a := (Value.str ⟨a.toArray⟩ t, PySem.Str.mk a.toArray, Value.ref T)) rfl ?_)
  dsimp only
  rw [if_neg (by
    show ¬ ((PySem.Str.mk a.toArray).length == 0) = true
    rw [S_len]
    cases a with
    | nil => exact absurd rfl hne
    | cons x r => simp)]
  refine wpAny_bind ?_
  rw [← Array.forIn_toList]
  have le_total : ∀ rest b, TrI tr a rest b → b.2.1 ≤ (a.flatMap tr).length := by
    rintro rest b ⟨⟨pre, e1, e2⟩, e3, _⟩
    rw [e3, e2, e1]
    simp
  have notLong : ∀ rest b, TrI tr a rest b → tooLong b.2.1 = false := by
    intro rest b hb
    have := le_total rest b hb
    unfold tooLong
    exact decide_eq_false (by omega)
  refine wpAny_forIn_list _ (fun rest b s' => (∃ h' tk, s' = { s with heap := h', toks := tk } ∧ Ext s.heap h') ∧ TrI tr a rest b) _ ?_ ?_ _ _ ?_
  · rintro c rest ⟨pieces, total, fast, known, drop⟩ s' ⟨⟨h', tk, rfl, hx⟩, hb⟩
    obtain rfl : drop = false := hb.drop
    have hca : c ∈ a := by
      obtain ⟨⟨pre, e1, e2⟩, _⟩ := hb
      rw [e1]; simp
    obtain ⟨hc1, hc2⟩ := hc c hca
    have look := co_look (w := w) (A := A.in1) (tr := tr) hl hc1 hc2
    dsimp only
    rw [notLong _ _ hb]
    simp only [Bool.false_eq_true, if_false]
    have post : ∀ (x : Str) (fast' : Bool) (known' : List (Nat × Option Nat)) (q : Heap) (k n : Nat), x.cps.toList = tr c → n = total + x.length → Ext h' q → (∀ c o, known'.lookup c = some o → ∃ d, o = some d ∧ tr c = [d]) →
        (∃ h'' tk', ({ s with heap := q, toks := k } : Shared) = { s with heap := h'', toks := tk' } ∧ Ext s.heap h'') ∧ TrI tr a rest (x :: pieces, n, fast', known', false) :=
      fun x fast' known' q k n e en hq hk => ⟨⟨q, k, rfl, hx.trans hq⟩, en ▸ hb.push e hk⟩
    cases fast with
    | false =>
      simp only [Bool.false_eq_true, if_false]
      refine wpAny_bind (look _ _ _ (hI.trans hx) fun m q k hm he => ?_)
      obtain rfl := hm
      refine wpAny_pure ?_
      exact post _ _ _ _ _ _ (by simp) rfl he hb.known
    | true =>
      simp only [if_true]
      cases hlk : List.lookup c known with
      | some o =>
        obtain ⟨d, rfl, hd⟩ := hb.known c o hlk
        dsimp only
        refine wpAny_bind (wpAny_pure ?_)
        dsimp only
        refine wpAny_pure ?_
        exact post ⟨#[d]⟩ _ _ _ _ _ (by simp [hd]) rfl (Ext.refl _) hb.known
      | none =>
        dsimp only
        refine wpAny_bind (look _ _ _ (hI.trans hx) fun m q k hm he => ?_)
        obtain rfl := hm
        dsimp only
        by_cases h1 : ((PySem.Str.mk (tr c).toArray).length == 1 && (PySem.Str.mk (tr c).toArray).cps.all fun x => decide (x < 128)) = true
        · rw [if_pos h1]
          obtain ⟨d, hd⟩ : ∃ d, tr c = [d] := by
            simp only [Bool.and_eq_true, beq_iff_eq, S_len] at h1
            exact List.length_eq_one_iff.mp h1.1
          rw [hd]
          dsimp only
          refine wpAny_bind (wpAny_pure ?_)
          refine wpAny_pure ?_
          refine post ⟨#[d]⟩ _ _ _ _ _ (by simp [hd]) rfl he ?_
          intro c' o ho
          rcases lookup_cons_some ho with ⟨rfl, e⟩ | ho
          · exact ⟨d, by simpa using e.symm, hd⟩
          · exact hb.known c' o ho
        · rw [if_neg h1]
          dsimp only
          refine wpAny_bind (wpAny_pure ?_)
          dsimp only
          refine wpAny_bind (wpAny_rule ?_)
          refine wpAny_bind (look _ _ _ ((hI.trans hx).trans he) fun m q' k' hm he' => ?_)
          obtain rfl := hm
          refine wpAny_pure ?_
          exact post _ _ _ _ _ _ (by simp) rfl (he.trans he') hb.known
  · rintro ⟨pieces, total, fast, known, drop⟩ s' ⟨⟨h', tk, rfl, hx⟩, hb⟩
    dsimp only
    rw [notLong _ _ hb]
    simp only [Bool.false_eq_true, if_false]
    obtain ⟨⟨pre, e1, e2⟩, e3, _⟩ := hb
    rw [List.append_nil] at e1
    subst e1
    have e : List.foldl (fun acc (p : Str) => acc ++ p.cps) #[] pieces.reverse = (a.flatMap tr).toArray := by
      rw [glue_app]
      simp only at e2
      rw [e2]; simp
    rw [e]
    unfold retStr
    refine wpAny_bind (wpAny_mkStr ?_ (by rw [S_len]; exact Nat.le_of_lt hsz))
    exact wpAny_pure (hQ _ h' _ ⟨_, rfl⟩ hx)
  · refine ⟨⟨s.heap, s.toks, rfl, Ext.refl _⟩, ⟨[], by simp, by simp⟩, by simp, ?_, rfl⟩
    intro c o ho
    simp at ho
end
end Mine

/-! ### QM -/
open PySem PySem.W PyProof.Rows PySem.Calls
set_option Elab.async false
set_option maxRecDepth 100000
set_option maxHeartbeats 4000000
set_option linter.unusedVariables false
namespace Mine
section
variable {w : World} {A : Around} {h : Heap} {env : Env} {pos apos : Pos} {o e e₂ : Expr} {name : Str} {id : String} {a : List Nat}
theorem ev_meth0 {V : Value → Heap → Prop} (slot : Slot "str" name id) (ty : typeOf (.builtin id) = pure (.type "method_descriptor")) (ho : Ev w A env h o (IsS a))
    (q : ∀ t, CoH w A (call (.builtin id) [.str ⟨a.toArray⟩ t]) h V)
    (hb : attributeBase o name env (eval o env) = eval o env := by rfl) (hl : (apos.endLine == pos.line) = true := by rfl) : EvH w A env h (.Call (.Attribute o name apos) [] [] pos) V := by
  intro s Q E hI hQ
  refine wpAny_Call_method_lateS hb rfl hl (ho s _ E hI fun v h₁ k₁ hv₁ e₁ => ?_)
  obtain ⟨t, rfl⟩ := hv₁
  refine ⟨"str", id, F.plainAttrs_str, slot, ty, typeIs_str _ _ _, (fun _ e => nomatch e), callWith_method0 ?_⟩
  exact q t _ _ E (hI.trans e₁) fun v h₂ k₂ hv₂ e₂ => hQ v h₂ k₂ hv₂ (e₁.trans e₂)
theorem ev_meth1 {V : Value → Heap → Prop} {Va : Value → Prop} (slot : Slot "str" name id) (ty : typeOf (.builtin id) = pure (.type "method_descriptor")) (ho : Ev w A env h o (IsS a)) (he : Ev w A env h e Va)
    (q : ∀ t v, Va v → CoH w A (call (.builtin id) [.str ⟨a.toArray⟩ t, v]) h V)
    (hb : attributeBase o name env (eval o env) = eval o env := by rfl) (hl : (apos.endLine == pos.line) = true := by rfl) (hs : starEach [e] env = [(false, eval e env)] := by rfl) :
    EvH w A env h (.Call (.Attribute o name apos) [e] [] pos) V := by
  intro s Q E hI hQ
  refine wpAny_Call_method_lateS hb (by rw [hs]; rfl) hl (ho s _ E hI fun v h₁ k₁ hv₁ e₁ => ?_)
  obtain ⟨t, rfl⟩ := hv₁
  refine ⟨"str", id, F.plainAttrs_str, slot, ty, typeIs_str _ _ _, (fun _ e => nomatch e), callWith_method1 (args_cons (he _ _ E (hI.trans e₁) fun v h₂ k₂ hv₂ e₂ => args_nil ?_) (by rw [hs]; rfl)) (by rw [hs]; rfl)⟩
  exact q t v hv₂ _ _ E ((hI.trans e₁).trans e₂) fun v h₃ k₃ hv₃ e₃ => hQ v h₃ k₃ hv₃ ((e₁.trans e₂).trans e₃)
/-- the argument makes a new object -/
theorem ev_meth1H {V Va : Value → Heap → Prop} (slot : Slot "str" name id) (ty : typeOf (.builtin id) = pure (.type "method_descriptor")) (ho : Ev w A env h o (IsS a)) (he : EvH w A env h e Va)
    (q : ∀ t v h', Va v h' → Ext h h' → CoH w A (call (.builtin id) [.str ⟨a.toArray⟩ t, v]) h' V)
    (hb : attributeBase o name env (eval o env) = eval o env := by rfl) (hl : (apos.endLine == pos.line) = true := by rfl) (hs : starEach [e] env = [(false, eval e env)] := by rfl) :
    EvH w A env h (.Call (.Attribute o name apos) [e] [] pos) V := by
  intro s Q E hI hQ
  refine wpAny_Call_method_lateS hb (by rw [hs]; rfl) hl (ho s _ E hI fun v h₁ k₁ hv₁ e₁ => ?_)
  obtain ⟨t, rfl⟩ := hv₁
  refine ⟨"str", id, F.plainAttrs_str, slot, ty, typeIs_str _ _ _, (fun _ e => nomatch e), callWith_method1 (args_cons (he _ _ E (hI.trans e₁) fun v h₂ k₂ hv₂ e₂ => args_nil ?_) (by rw [hs]; rfl)) (by rw [hs]; rfl)⟩
  exact q t v h₂ hv₂ ((hI.trans e₁).trans e₂) _ _ E (Ext.refl _) fun v h₃ k₃ hv₃ e₃ => hQ v h₃ k₃ hv₃ ((e₁.trans e₂).trans e₃)

end
end Mine

/-! ### QL -/
open PySem PySem.W PyProof.Rows PySem.Calls
set_option Elab.async false
set_option maxRecDepth 100000
set_option maxHeartbeats 4000000
set_option linter.unusedVariables false
namespace Mine
/-! ## how a sign is written -/
noncomputable def hexC (d : Nat) : Nat := if d < 10 then 48 + d else 55 + d
/-- a sign as it is written -/
noncomputable def tr (c : Nat) : List Nat := if c ≠ 61 ∧ ((32 ≤ c ∧ c ≤ 126) ∨ c = 9) then [c] else [61, hexC (c / 16), hexC (c % 16)]
noncomputable def trE (c : Nat) : List Nat := if c = 10 ∨ c = 13 then [c] else tr c
/-! ## what stands when the law is called -/
noncomputable def biNames : List Str := ["chr", "ord", "len", "int", "sum", "iter", "next"].map Str.ofString
structure Lib (mg mb : Str → Option Value) (h : Heap) : Prop where
  g : h.Ns mainGlobals mg
  b : h.Ns builtinsNs mb
  lim : h.NoLimit
  bi : ∀ x ∈ biNames, mg x = none ∧ mb x = bootBuiltins x
  hexd : ∃ t, mg "hexdigits" = some (.str ⟨[48, 49, 50, 51, 52, 53, 54, 55, 56, 57, 97, 98, 99, 100, 101, 102, 65, 66, 67, 68, 69, 70].toArray⟩ t)
  crlf : ∃ t, mg "CRLF" = some (.str ⟨[13, 10].toArray⟩ t)
  unq : ∃ a, mg "unquote" = some (.ref a) ∧ IsFn h a 14 "unquote" .none
  quo : ∃ a, mg "quote" = some (.ref a) ∧ IsFn h a 15 "quote" .none
  qmap : ∃ a its, mg "_QUOPRI_MAP" = some (.ref a) ∧ h.IsList a its ∧ ∀ c, c < 256 → ∃ t, its[c]? = some (.str ⟨[61, hexC (c / 16), hexC (c % 16)].toArray⟩ t)
  emap : ∃ a its, mg "_QUOPRI_BODY_ENCODE_MAP" = some (.ref a) ∧ h.IsList a its ∧ ∀ c, c < 256 → ∃ t, its[c]? = some (.str ⟨(trE c).toArray⟩ t)
theorem Lib.keeps {mg mb : Str → Option Value} {h h' : Heap} (x : Lib mg mb h) (e : Ext h h') : Lib mg mb h' where
  g := x.g.keeps e
  b := x.b.keeps e
  lim := x.lim.keeps e
  bi := x.bi
  hexd := x.hexd
  crlf := x.crlf
  unq := let ⟨a, h1, h2⟩ := x.unq; ⟨a, h1, h2.keeps e⟩
  quo := let ⟨a, h1, h2⟩ := x.quo; ⟨a, h1, h2.keeps e⟩
  qmap := let ⟨a, its, h1, h2, h3⟩ := x.qmap; ⟨a, its, h1, h2.at fun o q => e _ o q, h3⟩
  emap := let ⟨a, its, h1, h2, h3⟩ := x.emap; ⟨a, its, h1, h2.at fun o q => e _ o q, h3⟩
theorem Lib.name {mg mb : Str → Option Value} {h : Heap} (x : Lib mg mb h) {n : Str} {v : Value} (hn : n ∈ biNames) (hv : bootBuiltins n = some v) : mg n = none ∧ mb n = some v := ⟨(x.bi n hn).1, (x.bi n hn).2.trans hv⟩
section
variable {w : World} {A : Around} {h : Heap} {mg mb : Str → Option Value} {env : Env} {pos : Pos}
theorem ev_bi {n : Str} {v : Value} (x : Lib mg mb h) (hn : n ∈ biNames) (hv : bootBuiltins n = some v) (eg : env.globals = mainGlobals := by rfl) (eb : env.builtins = builtinsNs := by rfl)
    (hk : env.scope.kind = .function := by rfl) (hl : env.kindOf n = some .globalImplicit := by rfl) (hd : (n == ("__debug__" : Str)) = false := by rfl) : Ev w A env h (.Name n pos) (IsV v) :=
  ev_builtin (by rw [eg]; exact x.g) (by rw [eb]; exact x.b) (x.name hn hv).1 (x.name hn hv).2 hk hl hd
theorem Co.callT2 {e e₂ : Expr} {Va Vb V : Value → Prop} {x : Str} {px : Pos} {T : String} (hf : Ev w A env h (.Name x px) (IsV (.type T))) (ha : Ev w A env h e Va) (hb : Ev w A env h e₂ Vb)
    (q : ∀ v u, Va v → Vb u → Co w A (call (.type T) [v, u]) h V) (hs : starEach [e, e₂] env = [(false, eval e env), (false, eval e₂ env)] := by rfl) (hs₂ : starEach [e₂] env = [(false, eval e₂ env)] := by rfl) :
    Ev w A env h (.Call (.Name x px) [e, e₂] [] pos) V := by
  intro s Q E hI hQ
  refine Call_ (hf s _ E hI fun fv h₁ k₁ hv₁ e₁ => ?_)
  subst hv₁
  refine PyProof.Rows.callWith_type1 (args_cons (ha _ _ E (hI.trans e₁) fun v h₂ k₂ hv₂ e₂ => ?_) (by rw [hs, hs₂])) (by rw [hs, hs₂]) (by rw [hs₂]; rfl)
  refine args_cons (hb _ _ E ((hI.trans e₁).trans e₂) fun u h₃ k₃ hv₃ e₃ => ?_) (by rw [hs₂]; rfl)
  refine args_nil ?_
  exact q v u hv₂ hv₃ _ _ E (((hI.trans e₁).trans e₂).trans e₃) fun v h₄ k₄ hv₄ e₄ => hQ v h₄ k₄ hv₄ (((e₁.trans e₂).trans e₃).trans e₄)
end
section
variable {α : Type} {w : World} {A : Around} {h q : Heap} {s : Shared} {tk₀ : Nat} {t : Sem α} {Q : α → Shared → Prop} {E : Value → Shared → Prop}
theorem Co.use {V : α → Prop} (x : Co w A t h V) (he : Ext h q) (k : ∀ v h' tk, V v → Ext q h' → Q v (St s h' tk)) : wpAny (model P w) A t Q E (St s q tk₀) := x (St s q tk₀) Q E he k
theorem CoH.use {V : α → Heap → Prop} (x : CoH w A t h V) (he : Ext h q) (k : ∀ v h' tk, V v h' → Ext q h' → Q v (St s h' tk)) : wpAny (model P w) A t Q E (St s q tk₀) := x (St s q tk₀) Q E he k
end
/-! unquote -/
section
variable {w : World} {A : Around} {h : Heap} {mg mb : Str → Option Value}
theorem unquote_spec {a : Addr} {x y z : Nat} {t : Tok} (hL : Lib mg mb h) (hf : IsFn h a 14 "unquote" .none) (hr : A.depth + 10 < recursionLimit) (hy : y ∈ hexL) (hz : z ∈ hexL) :
    Co w A (call (.ref a) [.str ⟨[x, y, z].toArray⟩ t]) h (IsS [16 * hv y + hv z]) := by
  intro s Q E hI hQ
  have hL' := hL.keeps hI
  refine fn_call (binds := [("s", .str ⟨[x, y, z].toArray⟩ t)]) (by omega) hL'.lim (hf.keeps hI) (fun _ _ _ _ _ _ => BindsTo.of_eq rfl) (by decide) (locs rfl) ?_
  intro L cd h₁ A' E' hns hx hLn hd hh
  rw [fr_binds1 (r := [])] at hns
  have hL1 := hL'.keeps hx
  conv => arg 3; arg 1; whnf
  refine wpAny_execs_cons (wpAny_Return_some ?_)
  refine Co.use (V := IsS [16 * hv y + hv z]) ?_ (Ext.refl _) fun v h' tk hv he => hQ v h' tk hv (hx.trans he)
  refine ev_chr (ev_bi hL1 (by decide) boot_chr) ?_ ?_
  · refine Co.callT2 (ev_bi hL1 (by decide) PyProof.Rows.boot_int) (ev_slice (ev_localS (a := [x, y, z]) hns rfl) (pt_some ev_int) (pt_some ev_int) ?_) ev_int ?_
    · rw [sizeLine_eq]; simp
    · rintro _ _ ⟨t, rfl⟩ ⟨u, rfl⟩
      exact co_int16 hy hz
  · have h1 : ∀ a ∈ hexL, hv a < 16 := by decide
    have := h1 y hy
    have := h1 z hz
    omega
end
end Mine

/-! ### QF -/
open PySem PySem.W PyProof.Rows PySem.Calls
set_option Elab.async false
set_option maxRecDepth 100000
set_option maxHeartbeats 4000000
set_option linter.unusedVariables false
namespace Mine
/-! ## statements -/
/-- all but ws stands as it stood -/
noncomputable def KB (ws : List Addr) (h h' : Heap) : Prop := ∀ b o, b ∉ ws → h.get? b = some o → h'.get? b = some o
theorem KB.refl (ws : List Addr) (h : Heap) : KB ws h h := fun _ _ _ e => e
theorem KB.trans {ws : List Addr} {a b c : Heap} (x : KB ws a b) (y : KB ws b c) : KB ws a c := fun q o n e => y q o n (x q o n e)
theorem KB.of_ext {ws : List Addr} {a b : Heap} (x : Ext a b) : KB ws a b := fun q o _ e => x q o e
theorem KB.of_same {L : Addr} {ws : List Addr} {a b : Heap} (hL : L ∈ ws) (x : Heap.SameBut L a b) : KB ws a b := fun q o n e => x.extBut q o (fun z => n (z ▸ hL)) e
theorem KB.mono {ws ws' : List Addr} {a b : Heap} (x : KB ws a b) (h : ∀ q ∈ ws, q ∈ ws') : KB ws' a b := fun q o n e => x q o (fun z => n (h q z)) e

/-- a frame over what stood before -/
structure At (h₀ : Heap) (L : Addr) (l : FrL) (h : Heap) : Prop where
  ns : h.Ns L (fr l)
  ext : Ext h₀ h
  out : h₀.get? L = none
theorem At.up {h₀ h h' : Heap} {L : Addr} {l : FrL} (x : At h₀ L l h) (e : Ext h h') : At h₀ L l h' := ⟨x.ns.keeps e, x.ext.trans e, x.out⟩
theorem At.some {h₀ h : Heap} {L : Addr} {l : FrL} (x : At h₀ L l h) : ∃ o, h.get? L = some o := let ⟨o, _, _, q, _⟩ := x.ns; ⟨o, q⟩
theorem At.kb {h₀ h h' : Heap} {L : Addr} {l : FrL} {ws : List Addr} (x : At h₀ L l h) (hL : L ∉ ws) (hw : ∀ b ∈ ws, h₀.get? b = none) (k : KB ws h h') : At h₀ L l h' :=
  ⟨x.ns.at' fun o e => k _ o hL e, fun b o e => k b o (fun q => by rw [hw b q] at e; cases e) (x.ext b o e), x.out⟩

section
variable {w : World} {A : Around} {s : Shared} {hp : Heap} {tk₀ : Nat} {env : Env} {E : Value → Shared → Prop} {Q : Flow → Shared → Prop} {pos px : Pos} {h₀ : Heap} {l : FrL} {x : Str} {e : Expr}
theorem ex_assign {V : Value → Prop} (F : At h₀ env.locals l hp) (he : Ev w A env hp e V)
    (k : ∀ v h' tk, V v → At h₀ env.locals (setL l x v) h' → KB [env.locals] hp h' → Q .next (St s h' tk))
    (hk : env.scope.kind = .function := by rfl) (hl : env.kindOf x = some .local := by rfl) (hsw : swapsWith e (some (.Name x px)) pos.line env = pure false := by rfl) :
    wpAny (model P w) A (exec (.Assign [.Name x px] e pos) env) Q E (St s hp tk₀) := by
  refine wpAny_Assign_Name (Co.use he (Ext.refl _) fun v h₁ k₁ hv e₁ => ?_) hsw
  refine stL (s := St s h₁ k₁) (F.ns.keeps e₁) (fun h₂ hn hs => ?_) hk hl
  exact k v h₂ _ hv ⟨hn, (F.ext.trans e₁).same F.out hs, F.out⟩ ((KB.of_ext e₁).trans (KB.of_same (by simp) hs))
theorem ex_aug {V : Value → Prop} {op : Operator} {v₀ : Value} (F : At h₀ env.locals l hp) (h0 : fr l x = some v₀) (he : Ev w A env hp e V) {W : Value → Prop}
    (q : ∀ v, V v → Co w A (inplaceOp op v₀ v) hp W)
    (k : ∀ v h' tk, W v → At h₀ env.locals (setL l x v) h' → KB [env.locals] hp h' → Q .next (St s h' tk))
    (hk : env.scope.kind = .function := by rfl) (hl : env.kindOf x = some .local := by rfl) :
    wpAny (model P w) A (exec (.AugAssign (.Name x px) op e pos) env) Q E (St s hp tk₀) := by
  refine wpAny_AugAssign_Name (ldL (s := St s hp tk₀) F.ns h0 (Co.use he (Ext.refl _) fun v h₁ k₁ hv e₁ => ?_) hk hl)
  refine Co.use (q v hv) e₁ fun r h₂ k₂ hr e₂ => ?_
  refine stL (s := St s h₂ k₂) (F.ns.keeps (e₁.trans e₂)) (fun h₃ hn hs => ?_) hk hl
  exact k r h₃ _ hr ⟨hn, (F.ext.trans (e₁.trans e₂)).same F.out hs, F.out⟩ ((KB.of_ext (e₁.trans e₂)).trans (KB.of_same (by simp) hs))
theorem aug_str {a b : List Nat} {t : Tok} {v : Value} {h : Heap} (hv : IsS b v) (hsz : a.length + b.length ≤ sizeLine) : Co w A (inplaceOp .Add (.str ⟨a.toArray⟩ t) v) h (IsS (a ++ b)) := by
  obtain ⟨u, rfl⟩ := hv
  exact Co.still fun s Q E hQ => SB.iadd (fun t' k => by rw [S_app]; exact hQ _ k ⟨t', rfl⟩) (by rw [S_len, S_len]; exact hsz)
theorem aug_int {a b : Int} {t : Tok} {v : Value} {h : Heap} (hv : IsI b v) : Co w A (inplaceOp .Add (.int a t) v) h (IsI (a + b)) := by
  obtain ⟨u, rfl⟩ := hv
  exact Co.still fun s Q E hQ => wpAny_iadd_int (hQ _ _ ⟨_, rfl⟩)
theorem ex_if {c : Bool} {body orelse : List Stmt} (ht : Te w A env hp e c)
    (k : ∀ h' tk, Ext hp h' → wpAny (model P w) A (execs (if c then body else orelse) env) Q E (St s h' tk)) :
    wpAny (model P w) A (exec (.If e body orelse pos) env) Q E (St s hp tk₀) := by
  refine wpAny_If (Co.use ht (Ext.refl _) fun b h₁ k₁ hb e₁ => ?_)
  subst hb
  have := k h₁ k₁ e₁
  cases b <;> simpa using this
theorem ex_ifT {c : Bool} {body orelse : List Stmt} (ht : Te w A env hp e c) (hc : c = true)
    (k : ∀ h' tk, Ext hp h' → wpAny (model P w) A (execs body env) Q E (St s h' tk)) :
    wpAny (model P w) A (exec (.If e body orelse pos) env) Q E (St s hp tk₀) := by
  subst hc; exact ex_if ht k
theorem ex_ifF {c : Bool} {body orelse : List Stmt} (ht : Te w A env hp e c) (hc : c = false)
    (k : ∀ h' tk, Ext hp h' → wpAny (model P w) A (execs orelse env) Q E (St s h' tk)) :
    wpAny (model P w) A (exec (.If e body orelse pos) env) Q E (St s hp tk₀) := by
  subst hc; exact ex_if ht k
theorem ex_ret {V : Value → Prop} (he : Ev w A env hp e V) (k : ∀ v h' tk, V v → Ext hp h' → Q (.ret v) (St s h' tk)) :
    wpAny (model P w) A (exec (.Return (some e) pos) env) Q E (St s hp tk₀) := wpAny_Return_some (Co.use he (Ext.refl _) k)
theorem as_name {Q : Unit → Shared → Prop} {v : Value} (F : At h₀ env.locals l hp)
    (k : ∀ h' tk, At h₀ env.locals (setL l x v) h' → KB [env.locals] hp h' → Q () (St s h' tk))
    (hk : env.scope.kind = .function := by rfl) (hl : env.kindOf x = some .local := by rfl) : wpAny (model P w) A (assign (.Name x px) env v) Q E (St s hp tk₀) :=
  wpAny_assign_Name (stL (s := St s hp tk₀) F.ns (fun h₂ hn hs => k h₂ _ ⟨hn, F.ext.same F.out hs, F.out⟩ (KB.of_same (by simp) hs)) hk hl)
/-- a while: J by a measure -/
theorem ex_while {body : List Stmt} (J : Nat → Heap → Prop) (n : Nat) (h0 : J n hp)
    (turn : ∀ (n : Nat) (h : Heap) (E' : Value → Shared → Prop), J n h → ∃ c, Te w A env h e c ∧ (c = true → ∀ h' tk', Ext h h' → wpAny (model P w) A (execs body env) (fun f s₃ => ((f = .next ∨ f = .cont) ∧ ∃ h tk m, s₃ = St s h tk ∧ m < n ∧ J m h) ∨ ∃ v, f = .ret v ∧ Q (.ret v) s₃) E' (St s h' tk')) ∧
      (c = false → ∀ h' tk', Ext h h' → Q .next (St s h' tk'))) :
    wpAny (model P w) A (exec (.While e body [] pos) env) Q E (St s hp tk₀) := by
  refine wpAny_While (codeAny_whileLoop (fun n s' => ∃ h tk, s' = St s h tk ∧ J n h) ?_ n ⟨hp, tk₀, rfl, h0⟩)
  rintro n s' ⟨h, tk, rfl, hj⟩
  obtain ⟨c, hc, ht, hf⟩ := turn n h (notedBy (model P w) A env fun e s' => cameBackBy (model P w) A env E e s') hj
  refine Co.use hc (Ext.refl _) fun b h₁ k₁ hb e₁ => ?_
  subst hb
  cases b with
  | false =>
    simp only [Bool.false_eq_true, if_false]
    exact wpAny_execs_nil (hf rfl h₁ k₁ e₁)
  | true =>
    simp only [if_true]
    refine wpAny_mono (ht rfl h₁ k₁ e₁) ?_ fun _ _ e => e
    rintro f s₃ (⟨hfl, h, tk, m, rfl, hm, hj'⟩ | ⟨v, rfl, hv⟩)
    · rcases hfl with rfl | rfl
      · exact ⟨m, hm, h, tk, rfl, hj'⟩
      · exact ⟨m, hm, h, tk, rfl, hj'⟩
    · exact hv
/-- a for over a list that stands -/
theorem ex_for {body : List Stmt} (G : List Value → Prop) (N : Nat) (hN : ∀ its, G its → its.length = N) (J : Nat → Heap → Prop) (ws : List Addr) (hh : A.handled = none)
    (hit : EvH w A env hp e fun v h' => ∃ ax its, v = .ref ax ∧ h'.IsList ax its.toArray ∧ ax ∉ ws ∧ G its) (hws : ∀ b ∈ ws, ∃ o, hp.get? b = some o)
    (h0 : ∀ h', Ext hp h' → J 0 h') (hJ : ∀ I i h h', hp.get? I = none → J i h → KB [I] h h' → J i h')
    (step : ∀ i v h tk E', i < N → (∃ its, G its ∧ its[i]? = some v) → J i h → wpAny (model P w) A (assign (.Name x px) env v) (fun _ s₂ => wpAny (model P w) A (execs body env)
      (fun f s₃ => (f = .next ∨ f = .cont) ∧ ∃ h₃ tk₃, s₃ = St s h₃ tk₃ ∧ J (i + 1) h₃ ∧ KB ws h h₃) E' s₂) E' (St s h tk))
    (done : ∀ h' tk, J N h' → Q .next (St s h' tk))
    (hs : ∀ x, foldedSetIterable e env x = pure x := by intro _; rfl) :
    wpAny (model P w) A (exec (.For (.Name x px) e body [] pos) env) Q E (St s hp tk₀) := by
  refine wpAny_For (CoH.use hit (Ext.refl _) fun v h₁ k₁ hv e₁ => ?_) hs
  obtain ⟨ax, its, rfl, hl, hax, hG⟩ := hv
  have hNl := hN its hG
  refine wpAny_pyIter_list (s := St s h₁ k₁) hl ?_
  show codeAny _ _ _ _ (St s (h₁.push _) k₁)
  have hI1 : h₁.get? h₁.objs.size = none := by
    cases hq : h₁.get? h₁.objs.size with
    | none => rfl
    | some o => exact absurd (Heap.lt_size hq) (Nat.lt_irrefl _)
  have hIs : (St s h₁ k₁).heap.objs.size = h₁.objs.size := rfl
  rw [hIs]
  generalize hIe : h₁.objs.size = I at *
  have hI0 : hp.get? I = none := by
    cases hq : hp.get? I with
    | none => rfl
    | some o => rw [e₁ _ _ hq] at hI1; cases hI1
  have hneI : ax ≠ I := by
    rintro rfl
    obtain ⟨o, ho, _⟩ := hl
    rw [hI1] at ho; cases ho
  have hIw : I ∉ ws := fun q => by
    obtain ⟨o, ho⟩ := hws I q
    rw [hI0] at ho; cases ho
  have W := Walks.list (prog := P) (w := w) (A := A) hh I ax hneI its.toArray
  refine codeAny_forLoop (fun k s' => ∃ h tk i, s' = St s h tk ∧ h.IsListIter I ax i ∧ h.IsList ax its.toArray ∧ J i h ∧ i ≤ its.length ∧ k = its.length + 1 - i) ?_ (its.length + 1) ?_
  · rintro k s' ⟨h, tk, i, rfl, hi1, hi2, hj, hle, rfl⟩
    by_cases hlt : i < its.length
    · refine W.item i _ _ _ (by simpa using hlt) ⟨hi1, hi2⟩ fun v h₂ k₂ hP hst hk => ?_
      have hP' : its[i]? = some v := by simpa using hP
      have kb : KB [I] h h₂ := fun b o hb e => hk b o hb e
      refine wpAny_mono (step i v h₂ k₂ _ (hNl ▸ hlt) ⟨its, hG, hP'⟩ (hJ I i h h₂ hI0 hj kb)) (fun _ s₂ hs₂ => wpAny_mono hs₂ ?_ fun _ _ e => e) fun _ _ e => e
      rintro f s₃ ⟨hfl, h₃, tk₃, rfl, hj₃, hk₃⟩
      have fin : ∃ m, m < its.length + 1 - i ∧ ∃ h tk i, (St s h₃ tk₃) = St s h tk ∧ h.IsListIter I ax i ∧ h.IsList ax its.toArray ∧ J i h ∧ i ≤ its.length ∧ m = its.length + 1 - i :=
        ⟨its.length + 1 - (i + 1), by omega, h₃, tk₃, i + 1, rfl, hst.1.at fun o e => hk₃ _ o hIw e, hst.2.at fun o e => hk₃ _ o hax e, hj₃, hlt, rfl⟩
      rcases hfl with rfl | rfl
      · exact fin
      · exact fin
    · have hie : i = its.length := by omega
      subst hie
      refine W.done (St s h tk) _ _ (by rw [List.size_toArray]; exact ⟨hi1, hi2⟩) fun h₂ k₂ hk => ?_
      exact wpAny_execs_nil (done h₂ k₂ (hNl ▸ hJ I _ h h₂ hI0 hj fun b o hb e => hk b o hb e))
  · refine ⟨_, _, 0, rfl, ?_, ?_, h0 _ (e₁.trans (Ext.push _ _)), Nat.zero_le _, rfl⟩
    · exact ⟨_, by rw [← hIe]; exact Heap.get?_push_size _ rfl, rfl, rfl⟩
    · exact hl.at fun o e => Heap.get?_push_of_some _ e
end
end Mine

/-! ### QP -/
open PySem PySem.W PyProof.Rows PySem.Calls
set_option Elab.async false
set_option maxRecDepth 100000
set_option maxHeartbeats 4000000
set_option linter.unusedVariables false
namespace Mine
/-! ## the plain functions -/
noncomputable def isBl (c : Nat) : Bool := c == 32 || c == 9
noncomputable def rstripL (a : List Nat) : List Nat := (a.reverse.dropWhile isBl).reverse
/-- a text's lines, parted at line feeds, returns and returns with a line feed -/
noncomputable def linesGo : List Nat → List Nat → List (List Nat)
  | cur, [] => if cur = [] then [] else [cur]
  | cur, c :: r => if c = 13 then (match r with | 10 :: r' => cur :: linesGo [] r' | r => cur :: linesGo [] r) else if c = 10 then cur :: linesGo [] r else linesGo (cur ++ [c]) r
termination_by _ r => r.length
noncomputable def linesL (a : List Nat) : List (List Nat) := linesGo [] a
/-- the signs that the law's bodies are made of -/
noncomputable def Ok (c : Nat) : Prop := c = 9 ∨ c = 10 ∨ c = 13 ∨ (32 ≤ c ∧ c < 128) ∨ c = 233
noncomputable def decGo (eol : List Nat) : List Nat → List Nat
  | [] => []
  | c :: r =>
    if c ≠ 61 then c :: (if r = [] then eol else decGo eol r)
    else match r with
      | [] => []
      | [a] => 61 :: decGo eol [a]
      | a :: b :: r' => if a ∈ hexL ∧ b ∈ hexL then (16 * hv a + hv b) :: (if r' = [] then eol else decGo eol r') else 61 :: decGo eol (a :: b :: r')
termination_by l => l.length
noncomputable def decRow (eol line : List Nat) : List Nat := if line = [] then eol else decGo eol line
noncomputable def decL (enc eol : List Nat) : List Nat := (linesL enc).flatMap fun l => decRow eol (rstripL l)
noncomputable def cutAt (w : Nat) (rest : List Nat) : Nat := if rest[w - 3]? = some 61 then w - 3 else if rest[w - 2]? = some 61 then w - 2 else w - 1
noncomputable def markOf (rest : List Nat) : List Nat := match rest.getLast? with | some 32 => [61, 50, 48] | some 9 => [61, 48, 57] | _ => []
noncomputable def tailRows (w : Nat) (rest : List Nat) : List (List Nat) :=
  if markOf rest = [] then [rest] else if rest.length ≤ w - 2 then [rest.dropLast ++ markOf rest] else if rest.length = w - 1 then [rest ++ [61], []] else [rest.dropLast ++ [61], markOf rest]
noncomputable def rowsT (w : Nat) (rest : List Nat) : List (List Nat) :=
  if h : w < rest.length ∧ 4 ≤ w then (rest.take (cutAt w rest) ++ [61]) :: rowsT w (rest.drop (cutAt w rest)) else tailRows w rest
termination_by rest.length
decreasing_by
  rw [List.length_drop]
  have : 1 ≤ cutAt w rest := by unfold cutAt; split <;> (try split) <;> omega
  omega
noncomputable def encL (body : List Nat) (w : Nat) (eol : List Nat) : List Nat := ((linesL (body.flatMap trE)).flatMap (rowsT w)).flatMap (· ++ eol)

/-! ## methods of texts -/
theorem takeWhile_len_eq (p : Nat → Bool) (l : List Nat) : l.length - (l.takeWhile p).length = (l.dropWhile p).length := by
  have := congrArg List.length (List.takeWhile_append_dropWhile (p := p) (l := l))
  rw [List.length_append] at this
  omega
theorem rstrip_S {goes : Nat → Bool} {a : List Nat} (hg : ∀ c ∈ a, goes c = isBl c) : Txt.stripBy goes false true ⟨a.toArray⟩ = ⟨(rstripL a).toArray⟩ := by
  have e : a.reverse.takeWhile goes = a.reverse.takeWhile isBl := by
    have : ∀ l : List Nat, (∀ c ∈ l, goes c = isBl c) → l.takeWhile goes = l.takeWhile isBl := by
      intro l
      induction l with
      | nil => intro _; rfl
      | cons x r ih =>
        intro hl
        rw [List.takeWhile_cons, List.takeWhile_cons, hl x (by simp), ih fun c hc => hl c (by simp [hc])]
    exact this _ fun c hc => hg c (by simpa using hc)
  have hr : (rstripL a) = a.take (a.length - (a.reverse.takeWhile isBl).length) := by
    unfold rstripL
    have h1 := List.takeWhile_append_dropWhile (p := isBl) (l := a.reverse)
    have h2 : a = (a.reverse.dropWhile isBl).reverse ++ (a.reverse.takeWhile isBl).reverse := by
      rw [← List.reverse_append, h1, List.reverse_reverse]
    have h3 : a.length - (a.reverse.takeWhile isBl).length = (a.reverse.dropWhile isBl).reverse.length := by
      have := takeWhile_len_eq isBl a.reverse
      simpa using this
    rw [h3]
    conv => rhs; rw [h2]
    simp
  have hlo : stripLo goes false ⟨a.toArray⟩ = 0 := rfl
  have hhi : stripHi goes true ⟨a.toArray⟩ 0 = a.length - (a.reverse.takeWhile isBl).length := by
    unfold stripHi
    rw [if_pos rfl, S_len]
    simp [e]
  unfold Txt.stripBy stripSame PySem.stripped
  rw [hlo, hhi, hr, S_len]
  split
  · rename_i hq
    simp only [beq_self_eq_true, Bool.true_and, beq_iff_eq] at hq
    rw [hq]; simp
  · unfold Builtin.Str.strSub
    congr 1
    simp
section
variable {w : World} {A : Around} {h : Heap} {a : List Nat} {t : Tok}
theorem co_rstrip (hg : ∀ c ∈ a, Unicode.isSpace c = isBl c) (hsz : a.length ≤ sizeLine) : Co w A (call (.builtin "str.rstrip") [.str ⟨a.toArray⟩ t]) h (IsS (rstripL a)) :=
  Co.still fun s Q E hQ => SC.rstrip (fun t' k => by
    unfold Txt.rstrip
    rw [rstrip_S hg]; exact hQ _ k ⟨t', rfl⟩) (by rw [S_len]; exact hsz)
theorem co_rstripBl {u : Tok} (hsz : a.length ≤ sizeLine) : Co w A (call (.builtin "str.rstrip") [.str ⟨a.toArray⟩ t, .str ⟨[32, 9].toArray⟩ u]) h (IsS (rstripL a)) :=
  Co.still fun s Q E hQ => SC.rstripChars (fun t' k => by
    unfold Txt.rstripChars
    rw [rstrip_S (fun c _ => by rw [Bool.eq_iff_iff]; simp [isBl])]; exact hQ _ k ⟨t', rfl⟩) (by rw [S_len]; exact hsz)
/-- a list of texts -/
noncomputable def IsStrs (h : Heap) (D : Addr) (xs : List (List Nat)) : Prop := ∃ ts : List Tok, ts.length = xs.length ∧ h.IsList D (List.zipWith (fun x t => Value.str ⟨x.toArray⟩ t) xs ts).toArray
end
end Mine

/-! ### QP1 -/
open PySem PySem.W PyProof.Rows PySem.Calls
set_option Elab.async false
set_option maxRecDepth 100000
set_option maxHeartbeats 4000000
set_option linter.unusedVariables false
namespace Mine
open Builtin Builtin.Str StrLaws
/-! ## splitlines is linesL -/
theorem brk_all : ∀ c, c < 234 → (c = 9 ∨ c = 10 ∨ c = 13 ∨ (32 ≤ c ∧ c < 128) ∨ c = 233) → Unicode.isLineBreak c = (c == 10 || c == 13) := by decide +kernel
theorem space_all : ∀ c, c < 234 → (c = 9 ∨ c = 10 ∨ c = 13 ∨ (32 ≤ c ∧ c < 128) ∨ c = 233) → c ≠ 10 → c ≠ 13 → Unicode.isSpace c = isBl c := by decide +kernel
theorem Ok.lt {c : Nat} (h : Ok c) : c < 234 := by unfold Ok at h; omega
theorem brk_ok {c : Nat} (h : Ok c) : Unicode.isLineBreak c = (c == 10 || c == 13) := brk_all c h.lt h
theorem space_ok {c : Nat} (h : Ok c) (h1 : c ≠ 10) (h2 : c ≠ 13) : Unicode.isSpace c = isBl c := space_all c h.lt h h1 h2
theorem linesGo_nil (cur : List Nat) : linesGo cur [] = if cur = [] then [] else [cur] := by rw [linesGo.eq_def]
theorem linesGo_plain {cur r : List Nat} {c : Nat} (h1 : c ≠ 10) (h2 : c ≠ 13) : linesGo cur (c :: r) = linesGo (cur ++ [c]) r := by rw [linesGo.eq_def]; simp [h1, h2]
theorem linesGo_lf {cur r : List Nat} : linesGo cur (10 :: r) = cur :: linesGo [] r := by rw [linesGo.eq_def]; simp
theorem linesGo_crlf {cur r : List Nat} : linesGo cur (13 :: 10 :: r) = cur :: linesGo [] r := by rw [linesGo.eq_def]; simp
theorem linesGo_cr {cur r : List Nat} (h : r.head? ≠ some 10) : linesGo cur (13 :: r) = cur :: linesGo [] r := by
  rw [linesGo.eq_def]
  cases r with
  | nil => simp
  | cons c r =>
    have : c ≠ 10 := by simpa using h
    simp only [if_true]
    split
    · rename_i heq; cases heq; exact absurd rfl this
    · rfl
noncomputable def cutsOf (a : List Nat) (l : List (Nat × Nat × Nat)) : List (List Nat) := l.map fun p => (a.take p.2.1).drop p.1
theorem cutsOf_snoc (a : List Nat) (l : List (Nat × Nat × Nat)) (p : Nat × Nat × Nat) : cutsOf a (l ++ [p]) = cutsOf a l ++ [(a.take p.2.1).drop p.1] := by simp [cutsOf]
theorem ls_run_eq {a : List Nat} (hok : ∀ c ∈ a, Ok c) : ∀ (m cur : Nat), cur + m = a.length →
    (∀ (lines : Array (Nat × Nat × Nat)) (start : Nat), start ≤ cur → cutsOf a (lsEnd ⟨a.toArray⟩ (Id.run (forIn (m := Id) (List.range' cur m) ((lines, start) : LsSt) (lsBody ⟨a.toArray⟩)))) = cutsOf a lines.toList ++ linesGo ((a.take cur).drop start) (a.drop cur)) ∧
    (∀ (lines : Array (Nat × Nat × Nat)), cutsOf a (lsEnd ⟨a.toArray⟩ (Id.run (forIn (m := Id) (List.range' cur m) ((lines, cur + 1) : LsSt) (lsBody ⟨a.toArray⟩)))) = cutsOf a lines.toList ++ linesGo [] (a.drop (cur + 1)))
  | 0, cur, hm => by
    have hl : (PySem.Str.mk a.toArray).length = a.length := S_len a
    constructor
    · intro lines start hs
      have hc : cur = a.length := by omega
      subst hc
      show cutsOf a (lsEnd _ (lines, start)) = _
      unfold lsEnd
      rw [hl]
      simp only [List.drop_length, List.take_length]
      rw [linesGo_nil]
      by_cases hq : start < a.length
      · rw [if_pos hq, if_neg (fun e => by have := List.drop_eq_nil_iff.mp e; omega), Array.toList_push, cutsOf_snoc]
        simp
      · rw [if_neg hq, if_pos (List.drop_eq_nil_iff.mpr (by omega))]
        simp
    · intro lines
      show cutsOf a (lsEnd _ (lines, cur + 1)) = _
      unfold lsEnd
      rw [hl]
      have : a.drop (cur + 1) = [] := List.drop_eq_nil_iff.mpr (by omega)
      rw [if_neg (by show ¬ cur + 1 < a.length; omega), this, linesGo_nil]
      simp
  | m + 1, cur, hm => by
    have ih := ls_run_eq hok m (cur + 1) (by omega)
    have hlt : cur < a.length := by omega
    have hget : (PySem.Str.mk a.toArray).cps.getD cur 0 = a[cur] := by
      show a.toArray.getD cur 0 = _
      simp [Array.getD, hlt]
    have hokc : Ok a[cur] := hok _ (List.getElem_mem hlt)
    have hdrop : a.drop cur = a[cur] :: a.drop (cur + 1) := List.drop_eq_getElem_cons hlt
    constructor
    · intro lines start hs
      rw [List.range'_succ, List.forIn_cons]
      rw [hdrop]
      generalize hc : a[cur] = c at *
      have htk : ((a.take cur).drop start) ++ [c] = (a.take (cur + 1)).drop start := by
        rw [List.take_succ_eq_append_getElem hlt, hc, List.drop_append_of_le_length (by rw [List.length_take]; omega)]
      unfold lsBody
      rw [hget, brk_ok hokc]
      by_cases hb : c = 10 ∨ c = 13
      · have hbb : (decide (start ≤ cur) && (c == 10 || c == 13)) = true := by simpa [hs] using hb
        simp only [hbb, if_true]
        have hnx : (PySem.Str.mk a.toArray).cps[cur + 1]? = a[cur + 1]? := by simp
        by_cases h13 : c = 13 ∧ a[cur + 1]? = some 10
        · have hn : lsNext ⟨a.toArray⟩ cur = cur + 1 + 1 := by
            unfold lsNext
            rw [hget, hnx]
            simp [h13.1, h13.2]
          rw [hn]
          have := ih.2 (lines.push (start, cur, cur + 1 + 1))
          refine this.trans ?_
          have hd2 : a.drop (cur + 1) = 10 :: a.drop (cur + 1 + 1) := by
            have hlt2 : cur + 1 < a.length := by
              rcases Nat.lt_or_ge (cur + 1) a.length with q | q
              · exact q
              · rw [List.getElem?_eq_none q] at h13; exact absurd h13.2 (by simp)
            rw [List.drop_eq_getElem_cons hlt2]
            congr 1
            have := h13.2
            rw [List.getElem?_eq_getElem hlt2] at this
            exact Option.some.inj this
          rw [hd2, h13.1, linesGo_crlf, Array.toList_push, cutsOf_snoc]
          simp
        · have hn : lsNext ⟨a.toArray⟩ cur = cur + 1 := by
            unfold lsNext
            rw [hget, hnx, if_neg]
            intro q
            simp at q
            exact h13 q
          rw [hn]
          have := ih.1 (lines.push (start, cur, cur + 1)) (cur + 1) (Nat.le_refl _)
          refine this.trans ?_
          have hz : (a.take (cur + 1)).drop (cur + 1) = [] := List.drop_eq_nil_iff.mpr (by rw [List.length_take]; omega)
          rw [hz]
          have hg : linesGo ((a.take cur).drop start) (c :: a.drop (cur + 1)) = (a.take cur).drop start :: linesGo [] (a.drop (cur + 1)) := by
            rcases hb with rfl | rfl
            · exact linesGo_lf
            · refine linesGo_cr fun q => h13 ⟨rfl, ?_⟩
              rw [List.head?_drop] at q
              exact q
          rw [hg, Array.toList_push, cutsOf_snoc]
          simp
      · have hbb : (decide (start ≤ cur) && (c == 10 || c == 13)) = false := by
          rw [Bool.eq_false_iff]; intro q; simp at q; exact hb q.2
        simp only [hbb, Bool.false_eq_true, if_false]
        have := ih.1 lines start (by omega)
        refine this.trans ?_
        rw [linesGo_plain (fun e => hb (.inl e)) (fun e => hb (.inr e)), htk]
    · intro lines
      rw [List.range'_succ, List.forIn_cons]
      unfold lsBody
      have hbb : (decide (cur + 1 ≤ cur) && Unicode.isLineBreak ((PySem.Str.mk a.toArray).cps.getD cur 0)) = false := by
        have : ¬ cur + 1 ≤ cur := by omega
        simp [this]
      simp only [hbb, Bool.false_eq_true, if_false]
      have := ih.1 lines (cur + 1) (Nat.le_refl _)
      refine this.trans ?_
      have hz : (a.take (cur + 1)).drop (cur + 1) = [] := List.drop_eq_nil_iff.mpr (by rw [List.length_take]; omega)
      rw [hz]
theorem strSub_S (a : List Nat) (i j : Nat) : strSub ⟨a.toArray⟩ i j = ⟨((a.take j).drop i).toArray⟩ := by
  unfold strSub
  congr 1
  simp [List.drop_take]
theorem lines_S' {a : List Nat} (h : ∀ c ∈ a, Ok c) : Txt.lines ⟨a.toArray⟩ = (linesL a).map fun x => ⟨x.toArray⟩ := by
  have e : linesOf ⟨a.toArray⟩ = (cutsOf a (lineSpans ⟨a.toArray⟩)).map fun x => ⟨x.toArray⟩ := by
    unfold linesOf lineCuts cutsOf
    rw [List.map_map, List.map_map]
    apply List.map_congr_left
    intro ⟨i, j, k⟩ _
    exact strSub_S a i j
  have hr := (ls_run_eq h a.length 0 (by omega)).1 #[] 0 (Nat.le_refl _)
  have e2 : cutsOf a (lineSpans ⟨a.toArray⟩) = linesL a := by
    rw [ls_eq]
    have hl : (PySem.Str.mk a.toArray).length = a.length := S_len a
    rw [hl]
    refine hr.trans ?_
    simp [linesL, cutsOf]
  rw [e2] at e
  unfold Txt.lines
  split
  · rename_i hc
    rw [← e]
    unfold linesOf
    rw [beq_iff_eq.mp hc]
    simp only [List.map_cons, List.map_nil]
    rw [strSub_S]
    simp [PySem.Str.length]
  · exact e
/-! ## what a line holds -/
theorem linesGo_mem : ∀ (n : Nat) (cur r : List Nat), r.length ≤ n → (∀ c ∈ cur, c ≠ 10 ∧ c ≠ 13) → ∀ l ∈ linesGo cur r, (∀ c ∈ l, (c ∈ cur ∨ c ∈ r) ∧ c ≠ 10 ∧ c ≠ 13) ∧ l.length ≤ cur.length + r.length := by
  intro n
  induction n with
  | zero =>
    intro cur r hr hcur l hl
    have : r = [] := List.eq_nil_of_length_eq_zero (by omega)
    subst this
    rw [linesGo_nil] at hl
    split at hl
    · simp at hl
    · rw [List.mem_singleton.mp hl]
      exact ⟨fun c hc => ⟨.inl hc, hcur c hc⟩, by simp⟩
  | succ n ih =>
    intro cur r hr hcur l hl
    cases r with
    | nil =>
      rw [linesGo_nil] at hl
      split at hl
      · simp at hl
      · rw [List.mem_singleton.mp hl]
        exact ⟨fun c hc => ⟨.inl hc, hcur c hc⟩, by simp⟩
    | cons c r =>
      have self : (∀ x ∈ cur, (x ∈ cur ∨ x ∈ c :: r) ∧ x ≠ 10 ∧ x ≠ 13) ∧ cur.length ≤ cur.length + (c :: r).length := ⟨fun x hx => ⟨.inl hx, hcur x hx⟩, by omega⟩
      have step : ∀ r' : List Nat, r'.length ≤ r.length → (∀ x ∈ r', x ∈ r) → l ∈ linesGo [] r' → (∀ x ∈ l, (x ∈ cur ∨ x ∈ c :: r) ∧ x ≠ 10 ∧ x ≠ 13) ∧ l.length ≤ cur.length + (c :: r).length := by
        intro r' h1 h2 hl
        obtain ⟨h3, h4⟩ := ih [] r' (by simp at hr; omega) (by simp) l hl
        refine ⟨fun x hx => ?_, by simp at h4 ⊢; omega⟩
        obtain ⟨h5, h6⟩ := h3 x hx
        refine ⟨.inr ?_, h6⟩
        rcases h5 with q | q
        · simp at q
        · exact List.mem_cons_of_mem _ (h2 x q)
      by_cases h10 : c = 10
      · subst h10
        rw [linesGo_lf] at hl
        rcases List.mem_cons.mp hl with rfl | hl
        · exact self
        · exact step r (Nat.le_refl _) (fun _ h => h) hl
      · by_cases h13 : c = 13
        · subst h13
          by_cases hh : r.head? = some 10
          · cases r with
            | nil => simp at hh
            | cons d r =>
              have : d = 10 := by simpa using hh
              subst this
              rw [linesGo_crlf] at hl
              rcases List.mem_cons.mp hl with rfl | hl
              · exact self
              · exact step r (by simp) (fun _ h => List.mem_cons_of_mem _ h) hl
          · rw [linesGo_cr hh] at hl
            rcases List.mem_cons.mp hl with rfl | hl
            · exact self
            · exact step r (Nat.le_refl _) (fun _ h => h) hl
        · rw [linesGo_plain h10 h13] at hl
          obtain ⟨h3, h4⟩ := ih (cur ++ [c]) r (by simp at hr; omega) (by
            intro x hx
            rcases List.mem_append.mp hx with q | q
            · exact hcur x q
            · rw [List.mem_singleton.mp q]; exact ⟨h10, h13⟩) l hl
          refine ⟨fun x hx => ?_, by simp at h4 ⊢; omega⟩
          obtain ⟨h5, h6⟩ := h3 x hx
          refine ⟨?_, h6⟩
          rcases h5 with q | q
          · rcases List.mem_append.mp q with q | q
            · exact .inl q
            · rw [List.mem_singleton.mp q]; exact .inr (List.mem_cons_self ..)
          · exact .inr (List.mem_cons_of_mem _ q)
theorem linesL_mem {a l : List Nat} (h : l ∈ linesL a) : ∀ c ∈ l, c ∈ a ∧ c ≠ 10 ∧ c ≠ 13 := fun c hc => by
  obtain ⟨h1, h2⟩ := (linesGo_mem a.length [] a (Nat.le_refl _) (by simp) l h).1 c hc
  exact ⟨by simpa using h1, h2⟩
theorem linesL_len {a l : List Nat} (h : l ∈ linesL a) : l.length ≤ a.length := by
  simpa using (linesGo_mem a.length [] a (Nat.le_refl _) (by simp) l h).2
/-! ## signs as they are written -/
theorem hexC_ok (d : Nat) (h : d < 16) : 48 ≤ hexC d ∧ hexC d ≤ 70 := by unfold hexC; split <;> omega
theorem tr_ok {c x : Nat} (h : Ok c) (hx : x ∈ tr c) : Ok x ∧ x ≠ 10 ∧ x ≠ 13 := by
  have := h.lt
  have h1 := hexC_ok (c / 16) (by omega)
  have h2 := hexC_ok (c % 16) (by omega)
  unfold tr at hx
  split at hx
  · rw [List.mem_singleton.mp hx]
    rename_i hq
    refine ⟨h, ?_, ?_⟩ <;> omega
  · simp only [List.mem_cons, List.not_mem_nil, or_false] at hx
    unfold Ok
    omega
theorem trE_ok {c x : Nat} (h : Ok c) (hx : x ∈ trE c) : Ok x := by
  unfold trE at hx
  split at hx
  · rw [List.mem_singleton.mp hx]; exact h
  · exact (tr_ok h hx).1
theorem trE_pos (c : Nat) : 1 ≤ (trE c).length := by
  unfold trE tr
  repeat' split
  all_goals simp
theorem trE_len (a : List Nat) : a.length ≤ (a.flatMap trE).length := by
  induction a with
  | nil => simp
  | cons c r ih =>
    have := trE_pos c
    simp only [List.flatMap_cons, List.length_append, List.length_cons]
    omega
theorem trE_last {a : List Nat} (h : a.getLast? = some 10 ∨ a.getLast? = some 13) : (a.flatMap trE).getLast? = a.getLast? := by
  rcases List.eq_nil_or_concat a with rfl | ⟨q, c, rfl⟩
  · rfl
  · have hc : c = 10 ∨ c = 13 := by simpa using h
    have : trE c = [c] := by unfold trE; rw [if_pos hc]
    simp [List.concat_eq_append, List.flatMap_append, this]
end Mine

/-! ### QN -/
open PySem PySem.W PyProof.Rows PySem.Calls
set_option Elab.async false
set_option maxRecDepth 100000
set_option maxHeartbeats 4000000
set_option linter.unusedVariables false
namespace Mine
open Builtin Builtin.Str
noncomputable abbrev S (x : List Nat) : PySem.Str := ⟨x.toArray⟩
/-- a list of texts -/
noncomputable def IsStrL (h : Heap) (D : Addr) (xs : List (List Nat)) : Prop := ∃ vs : List Value, h.IsList D vs.toArray ∧ StrsAre vs (xs.map S)
theorem IsStrL.up {h h' : Heap} {D : Addr} {xs : List (List Nat)} (x : IsStrL h D xs) (e : Ext h h') : IsStrL h' D xs := let ⟨vs, a, b⟩ := x; ⟨vs, a.at fun o q => e _ o q, b⟩
theorem fresh_size {h₀ h : Heap} (e : Ext h₀ h) : h₀.get? h.objs.size = none := by
  cases hq : h₀.get? h.objs.size with
  | none => rfl
  | some o => exact absurd (Heap.lt_size (e _ _ hq)) (Nat.lt_irrefl _)
section
variable {w : World} {A : Around} {h : Heap} {a : List Nat} {t : Tok}
theorem co_splitlines {xs : List (List Nat)} (hx : Txt.lines (S a) = xs.map S) (hsz : a.length + 2 ≤ sizeLine) :
    CoH w A (call (.builtin "str.splitlines") [.str (S a) t]) h fun v h' => ∃ D, v = .ref D ∧ h.get? D = none ∧ IsStrL h' D xs := by
  intro s Q E hI hQ
  have hl : (S a).length = a.length := S_len a
  have fin : ∀ (l : List (Str × Tok)) (k : Nat), l.map (·.1) = Txt.lines (S a) → Q (.ref s.heap.objs.size) { s with toks := k, heap := s.heap.push { cls := .type "list", data := .seq (strValues l).toArray } } := by
    intro l k e
    refine hQ _ _ _ ⟨_, rfl, fresh_size hI, strValues l, ⟨_, Heap.get?_push_size _ rfl, rfl, _, rfl⟩, ?_⟩ (Ext.push _ _)
    rw [← hx, ← e]
    exact strsAre_of_values l
  refine call_meets F.slot_str_splitlines (typeIs_str _ _ _) F.entry_str_splitlines (F.args_str_splitlines_1 _) (meets_str_splitlines (S a) t (by omega) (by have e := lineCuts_le (S a); omega)) ?_
  cases hw : lineCuts (S a) == [(0, (S a).length)]
  · simp only [Bool.false_eq_true, if_false]
    rw [strsFrom_eq]
    exact fin (numbered s.toks (linesOf (S a))) _ ((numbered_texts _ _).trans (if_neg (ne_true_of_eq_false hw)).symm)
  · simp only [if_true]
    exact fin [(S a, t)] s.toks (if_pos hw).symm
theorem co_split {u : Tok} {y : List Nat} {xs : List (List Nat)} (hy : y ≠ []) (hx : Txt.split (S a) (S y) = xs.map S) (hsz : a.length + 2 ≤ sizeLine) :
    CoH w A (call (.builtin "str.split") [.str (S a) t, .str (S y) u]) h fun v h' => ∃ D, v = .ref D ∧ h.get? D = none ∧ IsStrL h' D xs := by
  intro s Q E hI hQ
  have hl : (S a).length = a.length := S_len a
  have hy' : ((S y).length == 0) = false := by
    rw [S_len]
    cases y with
    | nil => exact absurd rfl hy
    | cons c r => simp
  have fin : ∀ (l : List (Str × Tok)) (k : Nat), l.map (·.1) = Txt.split (S a) (S y) → Q (.ref s.heap.objs.size) { s with toks := k, heap := s.heap.push { cls := .type "list", data := .seq (strValues l).toArray } } := by
    intro l k e
    refine hQ _ _ _ ⟨_, rfl, fresh_size hI, strValues l, ⟨_, Heap.get?_push_size _ rfl, rfl, _, rfl⟩, ?_⟩ (Ext.push _ _)
    rw [← hx, ← e]
    exact strsAre_of_values l
  have hn : (partsBetween (S a) (occurrences (S a) (S y) 0 (S a).length ((S a).length + 1)) (S y).length).length ≤ sizeLine := by
    have e1 := StrLaws.occ_length_le (S a) (S y) 0 (S a).length ((S a).length + 1)
    rw [length_partsBetween]; omega
  cases h1 : (decide ((S a).length < (S y).length) || decide (strKind (S a) < strKind (S y)))
  · cases hf : (occurrences (S a) (S y) 0 (S a).length ((S a).length + 1)).isEmpty
    · refine call_meets F.slot_str_split (typeIs_str _ _ _) F.entry_str_split (F.args_str_split_2 _ _) (meets_str_split_sep (S a) (S y) t u h1 hy' hf (by omega) hn) ?_
      show wants Q E _ { s with toks := _, heap := s.heap.push { cls := .type "list", data := .seq (strsFrom s.toks (partsBetween (S a) (occurrences (S a) (S y) 0 (S a).length ((S a).length + 1)) (S y).length)).toArray } }
      rw [strsFrom_eq]
      exact fin (numbered s.toks _) _ ((numbered_texts _ _).trans ((if_neg (ne_true_of_eq_false h1)).trans (if_neg (ne_true_of_eq_false hf))).symm)
    · exact call_meets F.slot_str_split (typeIs_str _ _ _) F.entry_str_split (F.args_str_split_2 _ _) (meets_str_split_not_found (S a) (S y) t u h1 hy' hf)
        (fin [(S a, t)] s.toks ((if_neg (ne_true_of_eq_false h1)).trans (if_pos hf)).symm)
  · exact call_meets F.slot_str_split (typeIs_str _ _ _) F.entry_str_split (F.args_str_split_2 _ _) (meets_str_split_cannot_occur (S a) (S y) t u h1)
      (fin [(S a, t)] s.toks (if_pos h1).symm)
/-- the pieces with the glue between them -/
noncomputable def joinL (sep : List Nat) : List (List Nat) → List Nat
  | [] => []
  | [x] => x
  | x :: r => x ++ sep ++ joinL sep r
theorem glued_S (sep : List Nat) (xs : List (List Nat)) : glued (S sep) (xs.map S) = S (joinL sep xs) := by
  have key : ∀ (r : List (List Nat)) (acc : List Nat), (r.map S).foldl (fun acc p => acc ++ (S sep).cps ++ p.cps) acc.toArray = (r.foldl (fun a x => a ++ sep ++ x) acc).toArray := by
    intro r
    induction r with
    | nil => intro acc; rfl
    | cons x r ih => intro acc; rw [List.map_cons, List.foldl_cons, List.foldl_cons, ← ih]; simp
  have key2 : ∀ (r : List (List Nat)) (x : List Nat), r.foldl (fun a x => a ++ sep ++ x) x = joinL sep (x :: r) := by
    have gen : ∀ (r : List (List Nat)) (p x : List Nat), r.foldl (fun a x => a ++ sep ++ x) (p ++ x) = p ++ joinL sep (x :: r) := by
      intro r
      induction r with
      | nil => intro p x; rfl
      | cons y r ih =>
        intro p x
        rw [List.foldl_cons, List.append_assoc, List.append_assoc, ← List.append_assoc p, ← List.append_assoc (p ++ x), ih]
        simp [joinL]
    intro r x
    simpa using gen r [] x
  unfold glued
  cases xs with
  | nil => rfl
  | cons x r =>
    simp only [List.map_cons, List.drop_succ_cons, List.drop_zero, List.headD_cons]
    rw [key, key2]
theorem co_join {D : Addr} {sep : List Nat} {xs : List (List Nat)} (hl : IsStrL h D xs) (hok : (xs.map (·.length)).sum + xs.length * sep.length ≤ 16777216) :
    Co w A (call (.builtin "str.join") [.str (S sep) t, .ref D]) h (IsS (joinL sep xs)) := by
  intro s Q E hI hQ
  obtain ⟨vs, h1, h2⟩ := hl.up hI
  refine join_list h1 (by simpa using h2) ?_ fun t' k => ?_
  · rw [List.map_map, List.length_map, S_len]
    have : (List.map ((fun x => PySem.Str.length x) ∘ S) xs) = xs.map (·.length) := by
      apply List.map_congr_left
      intro x _
      exact S_len x
    rw [this]; exact hok
  · show Q (.str (glued (S sep) (xs.map S)) t') _
    rw [glued_S]
    exact hQ _ s.heap k ⟨t', rfl⟩ (Ext.refl _)
theorem co_endswith {u : Tok} {y : List Nat} : Co w A (call (.builtin "str.endswith") [.str (S a) t, .str (S y) u]) h fun v => ∃ b, v = .bool b :=
  Co.still fun s Q E hQ => SC.endswith (hQ _ _ ⟨_, rfl⟩)
end
end Mine
namespace Mine
section
variable {w : World} {A : Around} {h : Heap} {env : Env} {pos px : Pos} {x : Str}
theorem ev_globalS {mg : Str → Option Value} {a : List Nat} {t : Tok} (hn : h.Ns env.globals mg) (hv : mg x = some (.str ⟨a.toArray⟩ t))
    (hk : env.scope.kind = .function := by rfl) (hl : env.kindOf x = some .globalImplicit := by rfl) (hd : (x == ("__debug__" : Str)) = false := by rfl) : Ev w A env h (.Name x pos) (IsS a) :=
  (ev_global hn hv hk hl hd).post fun v e => ⟨t, e⟩
theorem ev_fn1 {a : Addr} {k : Nat} {nm : Str} {dV : Value} {e : Expr} {Va : Value → Prop} {V : Value → Heap → Prop} (hf : Ev w A env h (.Name x px) (IsV (.ref a))) (hfn : IsFn h a k nm dV) (he : Ev w A env h e Va)
    (q : ∀ v, Va v → CoH w A (call (.ref a) [v]) h V) (hs : starEach [e] env = [(false, eval e env)] := by rfl) : EvH w A env h (.Call (.Name x px) [e] [] pos) V := by
  intro s Q E hI hQ
  obtain ⟨o, kV, doc, pm, an, cd, ct, ho, hd, hcd⟩ := hfn
  refine Call_ (hf s _ E hI fun fv h₁ k₁ hv₁ e₁ => ?_)
  subst hv₁
  refine callWith_def hd (args_cons (he _ _ E (hI.trans e₁) fun v h₂ k₂ hv₂ e₂ => args_nil ?_) (by rw [hs]; rfl)) (by rw [hs]; rfl)
  refine ⟨((hI.trans e₁).trans e₂) _ _ ho, ?_⟩
  exact q v hv₂ _ _ E ((hI.trans e₁).trans e₂) fun v h₃ k₃ hv₃ e₃ => hQ v h₃ k₃ hv₃ ((e₁.trans e₂).trans e₃)
theorem ev_fn2 {a : Addr} {k : Nat} {nm : Str} {dV : Value} {e e₂ : Expr} {Va Vb : Value → Prop} {V : Value → Heap → Prop} (hf : Ev w A env h (.Name x px) (IsV (.ref a))) (hfn : IsFn h a k nm dV) (he : Ev w A env h e Va) (he₂ : Ev w A env h e₂ Vb)
    (q : ∀ v u, Va v → Vb u → CoH w A (call (.ref a) [v, u]) h V) (hs : starEach [e, e₂] env = [(false, eval e env), (false, eval e₂ env)] := by rfl) (hs₂ : starEach [e₂] env = [(false, eval e₂ env)] := by rfl) :
    EvH w A env h (.Call (.Name x px) [e, e₂] [] pos) V := by
  intro s Q E hI hQ
  obtain ⟨o, kV, doc, pm, an, cd, ct, ho, hd, hcd⟩ := hfn
  refine Call_ (hf s _ E hI fun fv h₁ k₁ hv₁ e₁ => ?_)
  subst hv₁
  refine callWith_def hd (args_cons (he _ _ E (hI.trans e₁) fun v h₂ k₂ hv₂ e₂ => args_cons (he₂ _ _ E ((hI.trans e₁).trans e₂) fun u h₃ k₃ hv₃ e₃ => args_nil ?_) (by rw [hs₂]; rfl)) (by rw [hs, hs₂])) (by rw [hs, hs₂])
  refine ⟨(((hI.trans e₁).trans e₂).trans e₃) _ _ ho, ?_⟩
  exact q v u hv₂ hv₃ _ _ E (((hI.trans e₁).trans e₂).trans e₃) fun v h₄ k₄ hv₄ e₄ => hQ v h₄ k₄ hv₄ (((e₁.trans e₂).trans e₃).trans e₄)
theorem ev_fn3 {a : Addr} {k : Nat} {nm : Str} {dV : Value} {e e₂ e₃ : Expr} {Va Vb Vc : Value → Prop} {V : Value → Heap → Prop} (hf : Ev w A env h (.Name x px) (IsV (.ref a))) (hfn : IsFn h a k nm dV) (he : Ev w A env h e Va) (he₂ : Ev w A env h e₂ Vb)
    (he₃ : Ev w A env h e₃ Vc)
    (q : ∀ v u z, Va v → Vb u → Vc z → CoH w A (call (.ref a) [v, u, z]) h V) (hs : starEach [e, e₂, e₃] env = [(false, eval e env), (false, eval e₂ env), (false, eval e₃ env)] := by rfl)
    (hs₂ : starEach [e₂, e₃] env = [(false, eval e₂ env), (false, eval e₃ env)] := by rfl) (hs₃ : starEach [e₃] env = [(false, eval e₃ env)] := by rfl) :
    EvH w A env h (.Call (.Name x px) [e, e₂, e₃] [] pos) V := by
  intro s Q E hI hQ
  obtain ⟨o, kV, doc, pm, an, cd, ct, ho, hd, hcd⟩ := hfn
  refine Call_ (hf s _ E hI fun fv h₁ k₁ hv₁ e₁ => ?_)
  subst hv₁
  refine callWith_def hd (args_cons (he _ _ E (hI.trans e₁) fun v h₂ k₂ hv₂ e₂ => args_cons (he₂ _ _ E ((hI.trans e₁).trans e₂) fun u h₃ k₃ hv₃ e₃ => args_cons (he₃ _ _ E (((hI.trans e₁).trans e₂).trans e₃) fun z h₄ k₄ hv₄ e₄ => args_nil ?_) (by rw [hs₃]; rfl)) (by rw [hs₂, hs₃])) (by rw [hs, hs₂])) (by rw [hs, hs₂])
  refine ⟨((((hI.trans e₁).trans e₂).trans e₃).trans e₄) _ _ ho, ?_⟩
  exact q v u z hv₂ hv₃ hv₄ _ _ E ((((hI.trans e₁).trans e₂).trans e₃).trans e₄) fun v h₅ k₅ hv₅ e₅ => hQ v h₅ k₅ hv₅ ((((e₁.trans e₂).trans e₃).trans e₄).trans e₅)
end
end Mine
namespace Mine
section
variable {w : World} {A : Around} {h : Heap} {env : Env} {pos : Pos} {e : Expr}
theorem ev_neg {i : Int} (he : Ev w A env h e (IsI i)) : Ev w A env h (.UnaryOp .USub e pos) (IsI (-i)) := by
  intro s Q E hI hQ
  refine UnaryOp_ (he s _ E hI fun v h₁ k₁ hv₁ e₁ => ?_)
  obtain ⟨t, rfl⟩ := hv₁
  exact neg_int (hQ _ h₁ _ ⟨_, rfl⟩ e₁)
end
end Mine

/-! ### QG -/
open PySem PySem.W PyProof.Rows PySem.Calls
set_option Elab.async false
set_option maxRecDepth 100000
set_option maxHeartbeats 4000000
set_option linter.unusedVariables false
namespace Mine
open Builtin
/-! ## xs.append as a value -/
theorem look_append : typeLookup (.type "list") "append" = pure (some (.builtin "list.append")) := by rw [typeLookup_type, builtinLookup_eq_fast]; kernel_rfl
theorem type_append : typeOf (.builtin "list.append") = pure (.type "method_descriptor") := by show builtinType _ = _; rw [builtinType_eq_fast]; kernel_rfl
theorem md_get : typeLookup (.type "method_descriptor") "__get__" = pure (some (.builtin "method_descriptor.__get__")) := by rw [typeLookup_type, builtinLookup_eq_fast]; kernel_rfl
theorem md_set : typeLookup (.type "method_descriptor") "__set__" = pure none := by rw [typeLookup_type, builtinLookup_eq_fast]; kernel_rfl
theorem md_del : typeLookup (.type "method_descriptor") "__delete__" = pure none := by rw [typeLookup_type, builtinLookup_eq_fast]; kernel_rfl
theorem entry_mdget : entryFor table "method_descriptor.__get__" = some Builtin.«method_descriptor.__get__» := entryFor_of_tree (by kernel_rfl)
theorem sub_ll : isSubtype (Value.type "list") (Value.type (".".intercalate ("list.append".cutAt '.').dropLast)) = pure true := by rw [isSubtype_type]; kernel_rfl
noncomputable abbrev bmObj (a : Addr) : Obj := { cls := .type "builtin_function_or_method", data := .fields #[.builtin "list.append", .ref a] }
section
variable {prog : Program} {w : World} {A : Around} {E : Value → Shared → Prop} {s : Shared} {a : Addr} {o : Obj} {xs : Array Value} {k : Nat} {sl : Array (Option Value)}
theorem mdget_wp {R : PySem.Fin → Shared → Prop} (hx : s.heap.get? a = some { cls := .type "list", dict := none, data := .seq xs k, slots := sl })
    (h : R (.done (.ret (.ref s.heap.objs.size))) { s with heap := s.heap.push (bmObj a) }) :
    wpAny (model prog w) A (Builtin.«method_descriptor.__get__» ⟨[.builtin "list.append", .ref a, .type "list"], []⟩) R E s := by
  obtain ⟨hp, g, d, tk, os⟩ := s
  have hT : (⟨hp, g, d, tk, os⟩ : Shared).TypeIs (.ref a) "list" := ⟨_, hx, rfl⟩
  have f1 := look_append
  have f2 := type_append
  have f3 := sub_ll
  unfold Builtin.«method_descriptor.__get__»
  repeat (any_goals (first | assumption | wp_step))
theorem mdget_check : checkBuiltinCall "method_descriptor.__get__" ⟨[.builtin "list.append", .ref a, .type "list"], []⟩ = pure () := by kernel_rfl
theorem mdget_call {Q : Value → Shared → Prop} (hx : s.heap.get? a = some { cls := .type "list", dict := none, data := .seq xs k, slots := sl })
    (h : Q (.ref s.heap.objs.size) { s with heap := s.heap.push (bmObj a) }) :
    codeAny (model prog w) A (.call (.builtin "method_descriptor.__get__") ⟨[.builtin "list.append", .ref a, .type "list"], []⟩)
      (fun r s' => match r with | .ok (.ret v) => Q v s' | .ok _ => False | .error e => E e s') s := by
  refine codeAny_call_builtin (by decide +kernel) entry_mdget ?_
  rw [mdget_check]
  exact wpAny_pure (mdget_wp hx h)
theorem ga_wp {R : PySem.Fin → Shared → Prop} {u : Tok} (hx : s.heap.get? a = some { cls := .type "list", dict := none, data := .seq xs k, slots := sl })
    (h : R (.done (.ret (.ref s.heap.objs.size))) { s with heap := s.heap.push (bmObj a) }) :
    wpAny (model prog w) A (Builtin.«object.__getattribute__» ⟨[.ref a, .str "append" u], []⟩) R E s := by
  obtain ⟨hp, g, d, tk, os⟩ := s
  have hT : (⟨hp, g, d, tk, os⟩ : Shared).TypeIs (.ref a) "list" := ⟨_, hx, rfl⟩
  have f1 := look_append
  have f2 := type_append
  have f3 := md_get
  have f4 := md_set
  have f5 := md_del
  unfold Builtin.«object.__getattribute__»
  repeat (any_goals (first | assumption | ((with_reducible show codeAny _ _ _ _ _); refine codeAny_mono (mdget_call (Q := fun v s' => R (.done (.ret v)) s') (E := E) hx h) ?_) | wp_step))
  rintro r s' hr
  cases r with
  | error e => exact hr
  | ok f => cases f <;> first | exact hr | exact wpAny_pure hr
theorem getattr_append {Q : Value → Shared → Prop} (hx : s.heap.get? a = some o) (hc : o.cls = .type "list") (hd : o.dict = none) (hdat : o.data = .seq xs k)
    (h : ∀ tk, Q (.ref s.heap.objs.size) { s with heap := s.heap.push (bmObj a), toks := tk }) : wpAny (model prog w) A (getAttr (.ref a) "append" true) Q E s := by
  obtain ⟨c, dct, dat, sl⟩ := o
  simp only at hc hdat hd
  subst hc hdat hd
  obtain ⟨hp, g, d, tk, os⟩ := s
  have hT : ∀ tk', (⟨hp, g, d, tk', os⟩ : Shared).TypeIs (.ref a) "list" := fun _ => ⟨_, hx, rfl⟩
  have f3 := F.slot_list_getattribute.lookup
  have f4 := F.slot_list_getattribute.bind (.ref a)
  have f5 := am_list_getattr_none
  unfold getAttr getAttrBy
  repeat (any_goals (first | assumption | exact hT _ | ((with_reducible show wpAny _ _ (call (Value.builtin "list.__getattribute__") _ _) _ _ _); refine wpAny_call (codeAny_call_builtin F.slot_list_getattribute.plain am_entry_list_getattribute (F.slot_list_getattribute.check _ _ _ _ _ _ _ _ (hT _) (F.args_list_getattribute_2 _ _) (ga_wp hx ?_)))) | wp_step))
  exact h _
end
end Mine

/-! ### QG1 -/
open PySem PySem.W PyProof.Rows PySem.Calls
set_option Elab.async false
set_option maxRecDepth 100000
set_option maxHeartbeats 4000000
set_option linter.unusedVariables false
namespace Mine
open Builtin
section
variable {prog : Program} {w : World} {A : Around} {E : Value → Shared → Prop} {s : Shared} {D bm : Addr} {its : Array Value} {n : Nat} {x : Value}
theorem sub_lm : isSubtype (.type "list") (.type "module") = pure false := by rw [isSubtype_type]; kernel_rfl
theorem sub_lt : isSubtype (.type "list") (.type "type") = pure false := by rw [isSubtype_type]; kernel_rfl
theorem bm_check {Q : Unit → Shared → Prop} (ho : s.heap.get? D = some { cls := .type "list", data := .seq its n }) (h : Q () s) : wpAny (model prog w) A (checkBoundCall "list.append" ⟨[.ref D, x], []⟩) Q E s := by
  obtain ⟨hp, g, d, tk, os⟩ := s
  have hT : (⟨hp, g, d, tk, os⟩ : Shared).TypeIs (.ref D) "list" := ⟨_, ho, rfl⟩
  have f1 := sub_lm
  have f2 := sub_lt
  unfold checkBoundCall
  repeat (any_goals (first | assumption | wp_step))
theorem bm_call {Q : Value → Shared → Prop} (hb : s.heap.get? bm = some (bmObj D)) (ho : s.heap.get? D = some { cls := .type "list", data := .seq its n })
    (h : ∀ h', Heap.SameBut D s.heap h' → h'.get? D = some { cls := .type "list", data := .seq (its.push x) (n + 1) } → Q .none { s with heap := h' })
    (hsz : its.size ≤ sizeLine) : wpAny (model prog w) A (call (.ref bm) [x]) Q E s := by
  refine wpAny_call (codeAny_of_tree ?_)
  show wpAny _ _ (callAny (.ref bm) ⟨[x], []⟩) _ _ s
  simp only [callAny]
  refine wpAny_bind (wpAny_load hb ?_)
  show wpAny _ _ (do
    checkBoundCall "list.append" ⟨[.ref D, x], []⟩
    again (.builtin "list.append" ⟨[.ref D, x], []⟩)) _ _ s
  refine wpAny_bind (bm_check ho (wpAny_pure ?_))
  refine ⟨plainId_quiet slot_list_append.plain _, codeAny_builtin entry_list_append ?_⟩
  show wpAny _ _ (updateSeq D (·.push x) >>= fun _ => ret .none) _ _ s
  refine wpAny_bind ?_
  refine wpAny_updateSeq ho rfl (wpAny_pure (h _ (Heap.SameBut.update ..) ?_))
  rw [Heap.get?_update_self _ ho (by rw [mapSeq_push]; rfl), mapSeq_push]
end
section
variable {w : World} {A : Around} {s : Shared} {hp : Heap} {tk₀ : Nat} {env : Env} {E : Value → Shared → Prop} {Q : Flow → Shared → Prop} {pos px p : Pos} {x : Str} {e : Expr} {D bm : Addr}
theorem keeper_bm {M : Model} (h : Heap) (hb : h.get? bm = some (bmObj D)) : ∃ k, (k = Keeper.frame ∨ k = Keeper.machine ∨ k = Keeper.boundFrame) ∧ Looks M h (keeperOf (.ref bm)) k :=
  ⟨.machine, .inr (.inl rfl), (Looks.ld (part := none) hb).andThen .now⟩
theorem ex_append {V : Value → Prop} {its : Array Value} {n : Nat} (hbm : Ev w A env hp (.Name x px) (IsV (.ref bm))) (hb : hp.get? bm = some (bmObj D)) (ho : hp.get? D = some { cls := .type "list", data := .seq its n }) (he : Ev w A env hp e V)
    (k : ∀ v h' tk, V v → h'.get? D = some { cls := .type "list", data := .seq (its.push v) (n + 1) } → KB [D] hp h' → Q .next (St s h' tk)) (hsz : its.size ≤ sizeLine)
    (hi : interactive env = false := by rfl) (hs : starEach [e] env = [(false, eval e env)] := by rfl) :
    wpAny (model P w) A (exec (.Expr (.Call (.Name x px) [e] [] pos) p) env) Q E (St s hp tk₀) := by
  refine wpAny_Expr ?_ hi rfl
  refine Call_ (Co.use hbm (Ext.refl _) fun fv h₁ k₁ hv₁ e₁ => ?_)
  subst hv₁
  rw [hs]
  refine callWith_of (P := fun h => h.get? bm = some (bmObj D)) rfl keeper_bm (evalArgs_plain ?_)
  refine spliced_cons (Co.use he e₁ fun v h₂ k₂ hv₂ e₂ => spliced_nil ?_)
  refine ⟨(e₁.trans e₂) _ _ hb, ?_⟩
  refine bm_call (s := St s h₂ k₂) ((e₁.trans e₂) _ _ hb) ((e₁.trans e₂) _ _ ho) (fun h₃ hs₃ ho₃ => ?_) hsz
  exact k v h₃ k₂ hv₂ ho₃ ((KB.of_ext (e₁.trans e₂)).trans (KB.of_same (by simp) hs₃))
theorem ev_append {o : Obj} {xs : Array Value} {k : Nat} (hx : Ev w A env hp (.Name x px) (IsV (.ref D))) (ho : hp.get? D = some o) (hc : o.cls = .type "list") (hd : o.dict = none) (hdat : o.data = .seq xs k)
    (hb : attributeBase (.Name x px) "append" env (eval (.Name x px) env) = eval (.Name x px) env := by rfl) :
    EvH w A env hp (.Attribute (.Name x px) "append" pos) fun v h' => ∃ bm, v = .ref bm ∧ hp.get? bm = none ∧ h'.get? bm = some (bmObj D) := by
  intro s Q E hI hQ
  show wpAny _ _ (do
    let o ← attributeBase (.Name x px) "append" env (eval (.Name x px) env)
    standAt pos.atName
    let r ← holding [o] (getAttr o "append" true)
    letTemporaryGo (.Name x px) o r
    pure r) _ _ _
  rw [hb]
  refine wpAny_bind (hx s _ E hI fun v h₁ k₁ hv₁ e₁ => ?_)
  subst hv₁
  refine wpAny_bind (wpAny_standAt (wpAny_bind (wpAny_holding ?_)))
  refine getattr_append (s := St s h₁ k₁) (e₁ _ _ (hI _ _ ho)) hc hd hdat fun tk => ?_
  refine wpAny_bind (wpAny_pure (wpAny_pure ?_))
  exact hQ _ _ tk ⟨_, rfl, fresh_size (hI.trans e₁), Heap.get?_push_size _ rfl⟩ (e₁.trans (Ext.push _ _))
end
end Mine

/-! ### QD -/
open PySem PySem.W PyProof.Rows PySem.Calls
set_option Elab.async false
set_option maxRecDepth 100000
set_option maxHeartbeats 4000000
set_option linter.unusedVariables false
namespace Mine
theorem decGo_ne {eol r : List Nat} {c : Nat} (h : c ≠ 61) : decGo eol (c :: r) = c :: (if r = [] then eol else decGo eol r) := by
  rw [decGo.eq_def]; simp [h]
theorem decGo_end {eol : List Nat} : decGo eol [61] = [] := by
  rw [decGo.eq_def]; simp
theorem decGo_one {eol : List Nat} {a : Nat} : decGo eol [61, a] = 61 :: decGo eol [a] := by
  rw [decGo.eq_def]; simp
theorem decGo_hex {eol r : List Nat} {a b : Nat} (ha : a ∈ hexL) (hb : b ∈ hexL) : decGo eol (61 :: a :: b :: r) = (16 * hv a + hv b) :: (if r = [] then eol else decGo eol r) := by
  rw [decGo.eq_def]; simp [ha, hb]
theorem decGo_not {eol r : List Nat} {a b : Nat} (h : ¬ (a ∈ hexL ∧ b ∈ hexL)) : decGo eol (61 :: a :: b :: r) = 61 :: decGo eol (a :: b :: r) := by
  rw [decGo.eq_def]; simp only [ne_eq, not_true_eq_false, if_false, h]
/-! plain facts, to be shown -/
theorem lines_S {a : List Nat} (h : ∀ c ∈ a, Ok c) : Txt.lines (S a) = (linesL a).map S := lines_S' h
theorem rstripL_len (a : List Nat) : (rstripL a).length ≤ a.length := by
  unfold rstripL
  have := takeWhile_len_eq isBl a.reverse
  simp at this ⊢
  omega
theorem rstripL_sub {a : List Nat} {c : Nat} (h : c ∈ rstripL a) : c ∈ a := by
  unfold rstripL at h
  have := List.dropWhile_sublist (p := isBl) (l := a.reverse)
  simpa using this.subset (List.mem_reverse.mp h)
theorem At.fresh {h₀ h h₁ h' : Heap} {L I : Addr} {l l₁ : FrL} (F₁ : At h₀ L l₁ h₁) (hI : h₁.get? I = none) (x : At h₀ L l h) (k : KB [I] h h') : At h₀ L l h' := by
  refine x.kb (ws := [I]) ?_ ?_ k
  · obtain ⟨o, ho⟩ := F₁.some
    simp only [List.mem_singleton]
    rintro rfl
    rw [hI] at ho; cases ho
  · intro b hb
    rw [List.mem_singleton.mp hb]
    cases hq : h₀.get? I with
    | none => rfl
    | some o => rw [F₁.ext _ _ hq] at hI; cases hI
noncomputable def DefTup (h : Heap) (dV : Value) (items : Array Value) : Prop := ∃ T o n, dV = .ref T ∧ h.get? T = some o ∧ o.data = .seq items n
/-- the frame of decode -/
noncomputable abbrev decFr (enc eol : Value) (d line i n c : Option Value) : FrL :=
  [(Str.ofString "encoded", some enc), (Str.ofString "eol", some eol), (Str.ofString "decoded", d), (Str.ofString "line", line), (Str.ofString "i", i), (Str.ofString "n", n), (Str.ofString "c", c)]
section
variable {w : World} {A : Around} {h : Heap} {mg mb : Str → Option Value}
theorem decode_gen {a : Addr} {enc eol : List Nat} {t u : Tok} {dV : Value} {args : List Value} (hL : Lib mg mb h) (hf : IsFn h a 20 "decode" dV)
    (hb : ∀ s : Shared, Ext h s.heap → ∀ kV doc pm an cd ct, BindsTo s (fnOf "decode" "decode" (fArgs (stAt 20)) (fBody (stAt 20)) (fScope (stAt 20)) dV kV doc pm an cd ct) ⟨args, []⟩ [("encoded", .str (S enc) t), ("eol", .str (S eol) u)])
    (hr : A.depth + 20 < recursionLimit) (hh : A.handled = none)
    (hlast : enc.getLast? = some 10 ∨ enc.getLast? = some 13) (hok : ∀ c ∈ enc, Ok c) (hsz : enc.length ≤ 1000000) (hsz2 : (decL enc eol).length ≤ 1000000) (he : eol.length ≤ 16) :
    Co w A (call (.ref a) args) h (IsS (decL enc eol)) := by
  have hlim : sizeLine = 16777216 := sizeLine_eq
  intro s Q E hI hQ
  have hL' := hL.keeps hI
  have hne : enc ≠ [] := by rintro rfl; simp at hlast
  refine fn_call (binds := [("encoded", .str (S enc) t), ("eol", .str (S eol) u)]) (by omega) hL'.lim (hf.keeps hI) (hb s hI) (by decide) (locs rfl) ?_
  intro L cd h₁ A' E' hns hx hLn hd hh'
  rw [fr_binds2 (r := [Str.ofString "decoded", Str.ofString "line", Str.ofString "i", Str.ofString "n", Str.ofString "c"]) rfl] at hns
  have hL1 := hL'.keeps hx
  have F : At s.heap L (decFr (.str (S enc) t) (.str (S eol) u) none none none none none) h₁ := ⟨hns, hx, hLn⟩
  conv => arg 3; arg 1; whnf
  -- if not encoded
  refine wpAny_execs_cons (ex_ifF (te_not (te_nameS (ev_localS (a := enc) F.ns rfl) (by omega))) (by simp [hne]) fun h₂ k₂ e₂ => wpAny_execs_nil ?_)
  -- decoded = ''
  refine wpAny_execs_cons (ex_assign (F.up e₂) (ev_str (a := [])) fun v h₃ k₃ hv F₃ kb₃ => ?_)
  obtain ⟨td, rfl⟩ := hv
  -- for line in encoded.splitlines()
  let D : Nat → List Nat := fun i => ((linesL enc).take i).flatMap fun l => decRow eol (rstripL l)
  have hD : ∀ i line, (linesL enc)[i]? = some line → D (i + 1) = D i ++ decRow eol (rstripL line) := by
    intro i line hi
    show ((linesL enc).take (i + 1)).flatMap _ = _
    rw [List.take_add_one, hi]
    simp [D]
  have hDle : ∀ i, (D i).length ≤ 1000000 := by
    intro i
    refine Nat.le_trans ?_ hsz2
    show (((linesL enc).take i).flatMap _).length ≤ ((linesL enc).flatMap _).length
    conv => rhs; rw [← List.take_append_drop i (linesL enc)]
    rw [List.flatMap_append, List.length_append]
    omega
  have F₃' : At s.heap L (decFr (.str (S enc) t) (.str (S eol) u) (some (.str (S (D 0)) td)) none none none none) h₃ := F₃
  refine wpAny_execs_cons (ex_for (fun its => StrsAre its ((linesL enc).map S)) (linesL enc).length (fun its hi => by rw [hi.len_eq]; simp)
    (fun i h => ∃ td o1 o2 o3 o4, At s.heap L (decFr (.str (S enc) t) (.str (S eol) u) (some (.str (S (D i)) td)) o1 o2 o3 o4) h) [L] (by rw [hh']; exact hh) ?_ ?_ ?_ ?_ ?_ ?_)
  · -- the lines
    refine CoH.post (ev_meth0 PySem.F.slot_str_splitlines PySem.F.type_str_splitlines (ev_localS (a := enc) F₃'.ns rfl) fun t => co_splitlines (lines_S hok) (by omega)) ?_
    rintro v q ⟨ax, rfl, hn, vs, h1, h2⟩
    refine ⟨ax, vs, rfl, h1, ?_, h2⟩
    simp only [List.mem_singleton]
    rintro rfl
    obtain ⟨o, ho⟩ := F₃'.some
    rw [hn] at ho; cases ho
  · intro b hb
    rw [List.mem_singleton.mp hb]
    exact F₃'.some
  · intro h' e'
    exact ⟨td, none, none, none, none, F₃'.up e'⟩
  · rintro I i q q' hI ⟨td, o1, o2, o3, o4, x⟩ kb
    exact ⟨td, o1, o2, o3, o4, F₃'.fresh hI x kb⟩
  · rintro i v q k E'' hiN ⟨its, hG, hv⟩ ⟨td, o1, o2, o3, o4, G₀⟩
    obtain ⟨y, tl, rfl, hy⟩ := hG.item i v hv
    obtain ⟨line, hline, rfl⟩ : ∃ line, (linesL enc)[i]? = some line ∧ S line = y := by
      rw [List.getElem?_map] at hy
      cases hq : (linesL enc)[i]? with
      | none => rw [hq] at hy; cases hy
      | some line => rw [hq] at hy; exact ⟨line, rfl, by simpa using hy⟩
    have hmem := linesL_mem (List.mem_of_getElem? hline)
    refine as_name G₀ fun h₄ k₄ F₄ kb₄ => ?_
    have hlsz : line.length ≤ 1000000 := Nat.le_trans (linesL_len (List.mem_of_getElem? hline)) hsz
    -- line = line.rstrip()
    refine wpAny_execs_cons (ex_assign F₄ (V := IsS (rstripL line)) (ev_meth0 PySem.F.slot_str_rstrip PySem.F.type_str_rstrip (ev_localS (a := line) F₄.ns rfl) fun t => co_rstrip (fun c hc => space_ok (hok c (hmem c hc).1) (hmem c hc).2.1 (hmem c hc).2.2) (by omega)) fun v h₅ k₅ hv F₅ kb₅ => ?_)
    obtain ⟨tl', rfl⟩ := hv
    generalize hr' : rstripL line = r at *
    have hrsz : r.length ≤ 1000000 := by
      rw [← hr']; exact Nat.le_trans (rstripL_len line) hlsz
    have hkb5 : KB [L] q h₅ := kb₄.trans kb₅
    have hDn := hD i line hline
    rw [hr'] at hDn
    have hDs := hDle (i + 1)
    rw [hDn, List.length_append] at hDs
    have F₅' : At s.heap L (decFr (.str (S enc) t) (.str (S eol) u) (some (.str (S (D i)) td)) (some (.str (S r) tl')) o2 o3 o4) h₅ := F₅
    by_cases hre : r = []
    · -- an empty line
      subst hre
      refine wpAny_execs_cons (ex_ifT (te_not (te_nameS (ev_localS (a := []) F₅'.ns rfl) (by omega))) (by simp) fun h₆ k₆ e₆ => ?_)
      have hdr : decRow eol [] = eol := by simp [decRow]
      rw [hdr] at hDs hDn
      refine wpAny_execs_cons (ex_aug (F₅'.up e₆) rfl (ev_localS (a := eol) (F₅'.up e₆).ns rfl) (fun v hv => aug_str hv (by omega)) fun v h₇ k₇ hv F₇ kb₇ => ?_)
      obtain ⟨t7, rfl⟩ := hv
      refine wpAny_execs_cons (wpAny_Continue ?_)
      exact ⟨.inr rfl, h₇, k₇, rfl, ⟨t7, some (.str (S []) tl'), o2, o3, o4, by rw [hDn]; exact F₇⟩, (hkb5.trans (KB.of_ext e₆)).trans kb₇⟩
    · refine wpAny_execs_cons (ex_ifF (te_not (te_nameS (ev_localS (a := r) F₅'.ns rfl) (by omega))) (by simp [hre]) fun h₆ k₆ e₆ => wpAny_execs_nil ?_)
      have hdr : decRow eol r = decGo eol r := by simp [decRow, hre]
      rw [hdr] at hDs hDn
      -- i = 0
      refine wpAny_execs_cons (ex_assign (F₅'.up e₆) ev_int fun v h₇ k₇ hv F₇ kb₇ => ?_)
      obtain ⟨t7, rfl⟩ := hv
      -- n = len(line)
      refine wpAny_execs_cons (ex_assign F₇ (ev_len (ev_bi (hL'.keeps F₇.ext) (by decide) boot_len) (ev_localS (a := r) F₇.ns rfl) (by omega)) fun v h₈ k₈ hv F₈ kb₈ => ?_)
      obtain ⟨t8, rfl⟩ := hv
      have kb8 : KB [L] q h₈ := ((hkb5.trans (KB.of_ext e₆)).trans kb₇).trans kb₈
      -- the while
      refine wpAny_execs_cons (ex_while (fun m q' => ∃ (j : Nat) (d : List Nat) (td ti : Tok) (oc : Option Value), j ≤ r.length ∧ m = r.length - j ∧ KB [L] q q' ∧
          At s.heap L (decFr (.str (S enc) t) (.str (S eol) u) (some (.str (S d) td)) (some (.str (S r) tl')) (some (.int j ti)) (some (.int r.length t8)) oc) q' ∧
          d ++ (if j = r.length then [] else decGo eol (r.drop j)) = D i ++ decGo eol r) (r.length - 0) ?_ ?_)
      · refine ⟨0, D i, td, t7, o4, Nat.zero_le _, rfl, kb8, F₈, ?_⟩
        have : ¬ 0 = r.length := fun e => hre (List.eq_nil_of_length_eq_zero e.symm)
        simp [this]
      · rintro m q' E₃ ⟨j, d, td', ti, oc, hj, rfl, kbq, G, hinv⟩
        refine ⟨_, te_ltI (ev_localI (i := (j : Int)) G.ns rfl) (ev_localI (i := (r.length : Int)) G.ns rfl), ?_, ?_⟩
        · intro hlt h₉ k₉ e₉
          have hjlt : j < r.length := by simpa using hlt
          have G9 := G.up e₉
          have hdl : d.length + (decGo eol (r.drop j)).length ≤ 1000000 := by
            have := congrArg List.length hinv
            rw [if_neg (by omega), List.length_append, List.length_append] at this
            omega
          rw [if_neg (by omega)] at hinv
          obtain ⟨c, hc⟩ : ∃ c, r[j]? = some c := ⟨r[j], by simp [hjlt]⟩
          have hdrop : r.drop j = c :: r.drop (j + 1) := by
            rw [List.drop_eq_getElem_cons hjlt]
            congr 1
            rw [List.getElem?_eq_getElem hjlt] at hc
            exact Option.some.inj hc
          -- c = line[i]
          refine wpAny_execs_cons (ex_assign G9 (ev_item (k := j) (c := c) (ev_localS (a := r) G9.ns rfl) (ev_localI (i := (j : Int)) G9.ns rfl) (.inl rfl) hc (by omega)) fun v h₁₀ k₁₀ hv F₁₀ kb₁₀ => ?_)
          obtain ⟨tc, rfl⟩ := hv
          have kb10 : KB [L] q h₁₀ := (kbq.trans (KB.of_ext e₉)).trans kb₁₀
          have F10 : At s.heap L (decFr (.str (S enc) t) (.str (S eol) u) (some (.str (S d) td')) (some (.str (S r) tl')) (some (.int j ti)) (some (.int r.length t8)) (some (.str (S [c]) tc))) h₁₀ := F₁₀
          let Fin : Shared → Prop := fun s₃ => ∃ h tk m, s₃ = St s h tk ∧ m < r.length - j ∧ ∃ (j : Nat) (d : List Nat) (td ti : Tok) (oc : Option Value), j ≤ r.length ∧ m = r.length - j ∧ KB [L] q h ∧
            At s.heap L (decFr (.str (S enc) t) (.str (S eol) u) (some (.str (S d) td)) (some (.str (S r) tl')) (some (.int j ti)) (some (.int r.length t8)) oc) h ∧
            d ++ (if j = r.length then [] else decGo eol (r.drop j)) = D i ++ decGo eol r
          let Mid : Shared → Prop := fun s₃ => ∃ h tk, s₃ = St s h tk ∧ ∃ (j' : Nat) (d : List Nat) (td ti : Tok) (oc : Option Value), j < j' ∧ j' ≤ r.length ∧ KB [L] q h ∧
            At s.heap L (decFr (.str (S enc) t) (.str (S eol) u) (some (.str (S d) td)) (some (.str (S r) tl')) (some (.int j' ti)) (some (.int r.length t8)) oc) h ∧
            d ++ (if j' = r.length then eol else decGo eol (r.drop j')) = D i ++ decGo eol r
          refine wpAny_execs_cons (wpAny_mono (Q := fun f s₃ => (f = .next ∧ Mid s₃) ∨ (f = .cont ∧ Fin s₃)) ?_ ?_ fun _ _ e => e)
          · -- the ways
            have hs := hdl
            rw [hdrop] at hs hinv
            have hnil : ∀ k, (r.drop k = []) ↔ r.length ≤ k := fun k => List.drop_eq_nil_iff
            by_cases hc61 : c = 61
            · subst hc61
              refine ex_ifF (te_neS (ev_localS (a := [61]) F10.ns rfl) (ev_str (a := [61]))) (by simp) fun h₁₁ k₁₁ e₁₁ => ?_
              have F11 := F10.up e₁₁
              have kb11 := kb10.trans (KB.of_ext e₁₁)
              by_cases hend : j + 1 = r.length
              · -- a soft end
                refine wpAny_execs_cons (ex_ifT (te_eqI (add_i (ev_localI (i := (j : Int)) F11.ns rfl) ev_int) (ev_localI (i := (r.length : Int)) F11.ns rfl)) (by simp; omega) fun h₁₂ k₁₂ e₁₂ => ?_)
                refine wpAny_execs_cons (ex_aug (F11.up e₁₂) rfl ev_int (fun v hv => aug_int hv) fun v h₁₃ k₁₃ hv F₁₃ kb₁₃ => ?_)
                obtain ⟨t13, rfl⟩ := hv
                refine wpAny_execs_cons (wpAny_Continue (.inr ⟨rfl, h₁₃, k₁₃, r.length - (j + 1), rfl, by omega, j + 1, d, td', t13, some (.str (S [61]) tc), by omega, rfl, (kb11.trans (KB.of_ext e₁₂)).trans kb₁₃, F₁₃, ?_⟩))
                rw [(hnil (j + 1)).mpr (by omega), decGo_end] at hinv
                rw [if_pos hend]
                exact hinv
              · refine wpAny_execs_cons (ex_ifF (te_eqI (add_i (ev_localI (i := (j : Int)) F11.ns rfl) ev_int) (ev_localI (i := (r.length : Int)) F11.ns rfl)) (by simp; omega) fun h₁₂ k₁₂ e₁₂ => ?_)
                have F12 := F11.up e₁₂
                have kb12 := kb11.trans (KB.of_ext e₁₂)
                obtain ⟨x, hx1⟩ : ∃ x, r[j + 1]? = some x := ⟨r[j + 1]'(by omega), by rw [List.getElem?_eq_getElem]⟩
                have hd1 : r.drop (j + 1) = x :: r.drop (j + 2) := by
                  rw [List.drop_eq_getElem_cons (by omega)]
                  congr 1
                  rw [List.getElem?_eq_getElem (by omega)] at hx1
                  exact Option.some.inj hx1
                have hlib := hL'.keeps F12.ext
                obtain ⟨th, hhex⟩ := hL.hexd
                have hyv : j + 2 < r.length → r[j + 2]? = some (r.getD (j + 2) 0) := fun q => by simp [List.getD, q]
                generalize hyd : r.getD (j + 2) 0 = y at hyv
                refine wpAny_execs_cons (ex_if (te_and3 (b := decide (x ∈ hexL)) (d := decide (y ∈ hexL)) (te_ltI (add_i (ev_localI (i := (j : Int)) F12.ns rfl) ev_int) (ev_localI (i := (r.length : Int)) F12.ns rfl))
                  (fun _ => te_in1 (ev_item (k := j + 1) (ev_localS (a := r) F12.ns rfl) (add_i (ev_localI (i := (j : Int)) F12.ns rfl) ev_int) (.inl (by omega)) hx1 (by omega)) (ev_globalS hlib.g hhex))
                  (fun q _ => te_in1 (ev_item (k := j + 2) (ev_localS (a := r) F12.ns rfl) (add_i (ev_localI (i := (j : Int)) F12.ns rfl) ev_int) (.inl (by omega)) (hyv (by simp at q; omega)) (by omega)) (ev_globalS hlib.g hhex))) fun h₁₃ k₁₃ e₁₃ => ?_)
                have F13 := F12.up e₁₃
                have kb13 := kb12.trans (KB.of_ext e₁₃)
                by_cases hcc : j + 2 < r.length ∧ x ∈ hexL ∧ y ∈ hexL
                · -- an escape
                  obtain ⟨h2, hxh, hyh⟩ := hcc
                  have hd2 : r.drop (j + 2) = y :: r.drop (j + 3) := by
                    rw [List.drop_eq_getElem_cons h2]
                    congr 1
                    have := hyv h2
                    rw [List.getElem?_eq_getElem h2] at this
                    exact Option.some.inj this
                  rw [if_pos (by simp [hxh, hyh]; omega)]
                  rw [hd1, hd2, decGo_hex hxh hyh] at hs hinv
                  simp only [List.length_cons] at hs
                  obtain ⟨au, hau, hfu⟩ := hL.unq
                  have hcut : sl r (some (j : Int)) (some ((j : Int) + 3)) = [61, x, y] := by
                    unfold sl
                    have c1 : clipN r.length (j : Int) = j := by unfold clipN; omega
                    have c2 : clipN r.length ((j : Int) + 3) = j + 3 := by unfold clipN; omega
                    simp only [Option.map_some, Option.getD_some, c1, c2]
                    rw [List.drop_take, show j + 3 - j = 3 by omega, hdrop, hd1, hd2]
                    rfl
                  refine wpAny_execs_cons (ex_aug F13 rfl (V := IsS [16 * Mine.hv x + Mine.hv y]) (ev_fn1 (ev_global (hL'.keeps F13.ext).g hau) (hfu.keeps (hI.trans F13.ext)) (ev_slice (ev_localS (a := r) F13.ns rfl) (pt_some (ev_localI (i := (j : Int)) F13.ns rfl)) (pt_some (add_i (ev_localI (i := (j : Int)) F13.ns rfl) ev_int)) (by omega))
                    (fun v hv => by
                      rw [hcut] at hv
                      obtain ⟨tv, rfl⟩ := hv
                      exact (unquote_spec hL hfu (by omega) hxh hyh).up (hI.trans F13.ext))) (fun v hv => aug_str hv (by simp; omega)) fun v h₁₄ k₁₄ hv F₁₄ kb₁₄ => ?_)
                  obtain ⟨t14, rfl⟩ := hv
                  refine wpAny_execs_cons (ex_aug F₁₄ rfl ev_int (fun v hv => aug_int hv) fun v h₁₅ k₁₅ hv F₁₅ kb₁₅ => wpAny_execs_nil (wpAny_execs_nil (wpAny_execs_nil (.inl ⟨rfl, h₁₅, k₁₅, rfl, ?_⟩))))
                  obtain ⟨t15, rfl⟩ := hv
                  refine ⟨j + 3, d ++ [16 * Mine.hv x + Mine.hv y], t14, t15, some (.str (S [61]) tc), by omega, by omega, (kb13.trans kb₁₄).trans kb₁₅, F₁₅, ?_⟩
                  rw [← hinv, List.append_assoc]
                  congr 1
                  simp only [List.singleton_append]
                  congr 1
                  by_cases hq : j + 3 = r.length
                  · rw [if_pos hq, if_pos ((hnil _).mpr (by omega))]
                  · rw [if_neg hq, if_neg fun e => hq (by have := (hnil _).mp e; omega)]
                · -- the sign itself
                  have hgo : decGo eol (61 :: r.drop (j + 1)) = 61 :: decGo eol (r.drop (j + 1)) := by
                    rw [hd1]
                    by_cases h2 : j + 2 < r.length
                    · have hd2 : r.drop (j + 2) = y :: r.drop (j + 3) := by
                        rw [List.drop_eq_getElem_cons h2]
                        congr 1
                        have := hyv h2
                        rw [List.getElem?_eq_getElem h2] at this
                        exact Option.some.inj this
                      rw [hd2, decGo_not fun q => hcc ⟨h2, q⟩]
                    · rw [(hnil (j + 2)).mpr (by omega), decGo_one]
                  rw [hgo] at hs hinv
                  simp only [List.length_cons] at hs
                  have hff : ((decide ((j : Int) + 2 < r.length) && decide (x ∈ hexL)) && decide (y ∈ hexL)) = false := by
                    rw [Bool.eq_false_iff]
                    intro q
                    simp at q
                    exact hcc ⟨by omega, q.1.2, q.2⟩
                  rw [if_neg (by rw [hff]; decide)]
                  refine wpAny_execs_cons (ex_aug F13 rfl (ev_localS (a := [61]) F13.ns rfl) (fun v hv => aug_str hv (by simp; omega)) fun v h₁₄ k₁₄ hv F₁₄ kb₁₄ => ?_)
                  obtain ⟨t14, rfl⟩ := hv
                  refine wpAny_execs_cons (ex_aug F₁₄ rfl ev_int (fun v hv => aug_int hv) fun v h₁₅ k₁₅ hv F₁₅ kb₁₅ => wpAny_execs_nil (wpAny_execs_nil (wpAny_execs_nil (.inl ⟨rfl, h₁₅, k₁₅, rfl, ?_⟩))))
                  obtain ⟨t15, rfl⟩ := hv
                  refine ⟨j + 1, d ++ [61], t14, t15, some (.str (S [61]) tc), by omega, by omega, (kb13.trans kb₁₄).trans kb₁₅, F₁₅, ?_⟩
                  rw [← hinv, List.append_assoc, if_neg hend]
                  rfl
            · refine ex_ifT (te_neS (ev_localS (a := [c]) F10.ns rfl) (ev_str (a := [61]))) (by simp [hc61]) fun h₁₁ k₁₁ e₁₁ => ?_
              rw [decGo_ne hc61] at hs hinv
              simp only [List.length_cons] at hs
              refine wpAny_execs_cons (ex_aug (F10.up e₁₁) rfl (ev_localS (a := [c]) (F10.up e₁₁).ns rfl) (fun v hv => aug_str hv (by simp; omega)) fun v h₁₂ k₁₂ hv F₁₂ kb₁₂ => ?_)
              obtain ⟨t12, rfl⟩ := hv
              refine wpAny_execs_cons (ex_aug F₁₂ rfl ev_int (fun v hv => aug_int hv) fun v h₁₃ k₁₃ hv F₁₃ kb₁₃ => wpAny_execs_nil (.inl ⟨rfl, h₁₃, k₁₃, rfl, ?_⟩))
              obtain ⟨t13, rfl⟩ := hv
              refine ⟨j + 1, d ++ [c], t12, t13, some (.str (S [c]) tc), by omega, by omega, ((kb10.trans (KB.of_ext e₁₁)).trans kb₁₂).trans kb₁₃, F₁₃, ?_⟩
              rw [← hinv, List.append_assoc]
              congr 1
              simp only [List.singleton_append]
              congr 1
              by_cases hq : j + 1 = r.length
              · rw [if_pos hq, if_pos ((hnil _).mpr (by omega))]
              · rw [if_neg hq, if_neg fun e => hq (by have := (hnil _).mp e; omega)]
          · -- if i == n
            rintro f s₃ (⟨rfl, h₁₁, k₁₁, rfl, j', d', td₁, ti₁, oc₁, hj1, hj2, kb₁₁, F₁₁, hinv'⟩ | ⟨rfl, hfin⟩)
            · by_cases hjn : j' = r.length
              · rw [if_pos hjn] at hinv'
                have hl : d'.length + eol.length ≤ 1000000 := by
                  have := congrArg List.length hinv'
                  rw [List.length_append, List.length_append] at this
                  omega
                refine wpAny_execs_cons (ex_ifT (te_eqI (ev_localI (i := (j' : Int)) F₁₁.ns rfl) (ev_localI (i := (r.length : Int)) F₁₁.ns rfl)) (by simp [hjn]) fun h₁₂ k₁₂ e₁₂ => ?_)
                refine wpAny_execs_cons (ex_aug (F₁₁.up e₁₂) rfl (ev_localS (a := eol) (F₁₁.up e₁₂).ns rfl) (fun v hv => aug_str hv (by omega)) fun v h₁₃ k₁₃ hv F₁₃ kb₁₃ => wpAny_execs_nil (wpAny_execs_nil ?_))
                obtain ⟨t13, rfl⟩ := hv
                exact .inl ⟨.inl rfl, h₁₃, k₁₃, r.length - j', rfl, by omega, j', d' ++ eol, t13, ti₁, oc₁, hj2, rfl, (kb₁₁.trans (KB.of_ext e₁₂)).trans kb₁₃, F₁₃, by rw [if_pos hjn, List.append_nil]; exact hinv'⟩
              · rw [if_neg hjn] at hinv'
                refine wpAny_execs_cons (ex_ifF (te_eqI (ev_localI (i := (j' : Int)) F₁₁.ns rfl) (ev_localI (i := (r.length : Int)) F₁₁.ns rfl)) (by simp; omega) fun h₁₂ k₁₂ e₁₂ => wpAny_execs_nil (wpAny_execs_nil ?_))
                exact .inl ⟨.inl rfl, h₁₂, k₁₂, r.length - j', rfl, by omega, j', d', td₁, ti₁, oc₁, hj2, rfl, kb₁₁.trans (KB.of_ext e₁₂), F₁₁.up e₁₂, by rw [if_neg hjn]; exact hinv'⟩
            · exact .inl ⟨.inr rfl, hfin⟩
        · intro hge h₉ k₉ e₉
          have hje : j = r.length := by
            have : ¬ (j : Int) < r.length := by simpa using hge
            omega
          rw [if_pos hje, List.append_nil] at hinv
          exact wpAny_execs_nil ⟨.inl rfl, h₉, k₉, rfl, ⟨td', some (.str (S r) tl'), some (.int j ti), some (.int r.length t8), oc, by rw [hDn, ← hinv]; exact G.up e₉⟩, kbq.trans (KB.of_ext e₉)⟩
  · rintro h' k ⟨td, o1, o2, o3, o4, G₀⟩
    -- if encoded[-1] not in ..
    have hDN : D (linesL enc).length = decL enc eol := by
      show ((linesL enc).take _).flatMap _ = _
      rw [List.take_length]; rfl
    rw [hDN] at G₀
    obtain ⟨c, hc, hcc⟩ : ∃ c, enc.getLast? = some c ∧ c ∈ [13, 10] := by
      rcases hlast with q | q
      · exact ⟨10, q, by simp⟩
      · exact ⟨13, q, by simp⟩
    have hlen : 0 < enc.length := List.length_pos_iff.mpr hne
    have hidx : enc[enc.length - 1]? = some c := by rw [← List.getLast?_eq_getElem?]; exact hc
    refine wpAny_execs_cons (ex_ifF (te_and (b := false) (te_notin1 (ev_item (k := enc.length - 1) (ev_localS (a := enc) G₀.ns rfl) (ev_neg ev_int) (.inr (by omega)) hidx (by omega)) (ev_str (a := [13, 10]))) (fun q => absurd hcc (by simpa using q))) (by simp [hcc]) fun h₂ k₂ e₂ => wpAny_execs_nil ?_)
    refine wpAny_execs_cons (ex_ret (ev_localS (a := decL enc eol) (G₀.up e₂).ns rfl) fun v h₃ k₃ hv e₃ => ?_)
    exact hQ v h₃ k₃ hv ((G₀.up e₂).ext.trans e₃)
theorem decode_spec {a : Addr} {enc eol : List Nat} {t u : Tok} {dV d1 : Value} (hL : Lib mg mb h) (hf : IsFn h a 20 "decode" dV) (hdV : DefTup h dV #[d1]) (hr : A.depth + 20 < recursionLimit) (hh : A.handled = none)
    (hlast : enc.getLast? = some 10 ∨ enc.getLast? = some 13) (hok : ∀ c ∈ enc, Ok c) (hsz : enc.length ≤ 1000000) (hsz2 : (decL enc eol).length ≤ 1000000) (he : eol.length ≤ 16) :
    Co w A (call (.ref a) [.str (S enc) t, .str (S eol) u]) h (IsS (decL enc eol)) :=
  decode_gen hL hf (fun s hI _ _ _ _ _ _ => by obtain ⟨T, o, n, rfl, ho, hd⟩ := hdV; exact BindsTo.of_defaults rfl (hI _ _ ho) hd rfl rfl) hr hh hlast hok hsz hsz2 he
theorem decode_spec1 {a : Addr} {enc : List Nat} {t u : Tok} {dV : Value} (hL : Lib mg mb h) (hf : IsFn h a 20 "decode" dV) (hdV : DefTup h dV #[.str (S [10]) u]) (hr : A.depth + 20 < recursionLimit) (hh : A.handled = none)
    (hlast : enc.getLast? = some 10 ∨ enc.getLast? = some 13) (hok : ∀ c ∈ enc, Ok c) (hsz : enc.length ≤ 1000000) (hsz2 : (decL enc [10]).length ≤ 1000000) :
    Co w A (call (.ref a) [.str (S enc) t]) h (IsS (decL enc [10])) :=
  decode_gen (u := u) hL hf (fun s hI _ _ _ _ _ _ => by obtain ⟨T, o, n, rfl, ho, hd⟩ := hdV; exact BindsTo.of_defaults rfl (hI _ _ ho) hd rfl rfl) hr hh hlast hok hsz hsz2 (by simp)
end
end Mine

/-! ### QE0 -/
open PySem PySem.W PyProof.Rows PySem.Calls
set_option Elab.async false
set_option maxRecDepth 100000
set_option maxHeartbeats 4000000
set_option linter.unusedVariables false
namespace Mine
section
variable {w : World} {A : Around} {s : Shared} {hp : Heap} {tk₀ : Nat} {env : Env} {E : Value → Shared → Prop} {Q : Flow → Shared → Prop} {pos px p : Pos} {x : Str} {e : Expr} {h₀ : Heap} {l : FrL}
theorem ex_assignH {V : Value → Heap → Prop} (F : At h₀ env.locals l hp) (he : EvH w A env hp e V)
    (k : ∀ v h₁ h' tk, V v h₁ → Ext hp h₁ → At h₀ env.locals (setL l x v) h' → KB [env.locals] h₁ h' → Q .next (St s h' tk))
    (hk : env.scope.kind = .function := by rfl) (hl : env.kindOf x = some .local := by rfl) (hsw : swapsWith e (some (.Name x px)) pos.line env = pure false := by rfl) :
    wpAny (model P w) A (exec (.Assign [.Name x px] e pos) env) Q E (St s hp tk₀) := by
  refine wpAny_Assign_Name (CoH.use he (Ext.refl _) fun v h₁ k₁ hv e₁ => ?_) hsw
  refine stL (s := St s h₁ k₁) (F.ns.keeps e₁) (fun h₂ hn hs => ?_) hk hl
  exact k v h₁ h₂ _ hv e₁ ⟨hn, (F.ext.trans e₁).same F.out hs, F.out⟩ (KB.of_same (by simp) hs)
noncomputable abbrev lstObj (its : List Value) (n : Nat) : Obj := { cls := .type "list", data := .seq its.toArray n }
theorem newList_co {vs : List Value} {h : Heap} (hsz : vs.length ≤ sizeLine) : CoH w A (newList vs) h fun v h' => ∃ D, v = .ref D ∧ h.get? D = none ∧ h'.get? D = some (lstObj vs 0) := by
  intro s Q E hI hQ
  exact wpAny_newList (hQ _ _ _ ⟨_, rfl, fresh_size hI, Heap.get?_push_size _ rfl⟩ (Ext.push _ _)) hsz
theorem ev_list0 : EvH w A env hp (.List [] pos) fun v h' => ∃ D, v = .ref D ∧ hp.get? D = none ∧ h'.get? D = some (lstObj [] 0) := by
  intro s Q E hI hQ
  show wpAny _ _ (do standAt pos; newList (← spliced (backTo pos (starEach [] env)))) _ _ _
  refine wpAny_bind (wpAny_standAt (wpAny_bind (args_nil ?_)))
  exact newList_co (by simp) s Q E hI hQ
theorem ev_itemL {value slice : Expr} {a : Addr} {its : Array Value} {k : Int} {v : Value} (hv : Ev w A env hp value (IsV (.ref a))) (hl : hp.IsList a its) (hi : Ev w A env hp slice (IsI k)) (h0 : 0 ≤ k) (h1 : k < 2 ^ 62) (hx : its[k.toNat]? = some v)
    (hs : ∀ a i u, subscripted slice false (.ref a) (.int i u) = operate [.ref a, .int i u] (getItem (.ref a) (.int i u)) := by intro _ _ _; with_unfolding_all rfl) : Ev w A env hp (.Subscript value slice pos) (IsV v) := by
  intro s Q E hI hQ
  refine Subscript_ (hv s _ E hI fun o h₁ k₁ hv₁ e₁ => ?_)
  subst hv₁
  refine hi _ _ E (hI.trans e₁) fun u h₂ k₂ hv₂ e₂ => ?_
  obtain ⟨u, rfl⟩ := hv₂
  have hL : (St (St s h₁ k₁) h₂ k₂).heap.IsList a its := hl.at fun o q => e₂ _ o (e₁ _ o (hI _ o q))
  exact tail_any hL.typeIs slot_list_getitem.lookup (wpAny_getItem_list hL h0 (by omega) hx (hQ v h₂ _ rfl (e₁.trans e₂))) (hs _ _ _)
/-- a list of texts that grows, and its append -/
noncomputable def Led (D bm : Addr) (q : Heap) (xs : List (List Nat)) : Prop := ∃ vs n, q.get? D = some (lstObj vs n) ∧ q.get? bm = some (bmObj D) ∧ StrsAre vs (xs.map S)
theorem Led.up {D bm L : Addr} {q q' : Heap} {xs : List (List Nat)} (x : Led D bm q xs) (k : KB [L] q q') (hD : D ∉ [L]) (hb : bm ∉ [L]) : Led D bm q' xs := let ⟨vs, n, h1, h2, h3⟩ := x; ⟨vs, n, k _ _ hD h1, k _ _ hb h2, h3⟩
theorem Led.ext {D bm : Addr} {q q' : Heap} {xs : List (List Nat)} (x : Led D bm q xs) (k : Ext q q') : Led D bm q' xs := let ⟨vs, n, h1, h2, h3⟩ := x; ⟨vs, n, k _ _ h1, k _ _ h2, h3⟩
theorem Led.list {D bm : Addr} {q : Heap} {xs : List (List Nat)} (x : Led D bm q xs) : IsStrL q D xs := let ⟨vs, n, h1, h2, h3⟩ := x; ⟨vs, ⟨_, h1, rfl, _, rfl⟩, h3⟩
theorem ex_appS {D bm : Addr} {xs : List (List Nat)} {a : List Nat} (hl : Led D bm hp xs) (hbm : Ev w A env hp (.Name x px) (IsV (.ref bm))) (he : Ev w A env hp e (IsS a)) (hbD : bm ≠ D) (hsz : xs.length ≤ sizeLine)
    (k : ∀ h' tk, Led D bm h' (xs ++ [a]) → KB [D] hp h' → Q .next (St s h' tk))
    (hi : interactive env = false := by rfl) (hs : starEach [e] env = [(false, eval e env)] := by rfl) :
    wpAny (model P w) A (exec (.Expr (.Call (.Name x px) [e] [] pos) p) env) Q E (St s hp tk₀) := by
  obtain ⟨vs, n, h1, h2, h3⟩ := hl
  refine ex_append hbm h2 h1 he (fun v h' tk hv hD kb => ?_) (by simp only [List.size_toArray]; rw [h3.len_eq]; simpa using hsz) hi hs
  obtain ⟨t, rfl⟩ := hv
  refine k h' tk ⟨vs ++ [.str (S a) t], n + 1, ?_, kb _ _ (by simpa using hbD) h2, ?_⟩ kb
  · rw [hD]; simp
  · rw [List.map_append]
    exact kct_snoc h3
end
end Mine

/-! ### QE -/
open PySem PySem.W PyProof.Rows PySem.Calls
set_option Elab.async false
set_option maxRecDepth 100000
set_option maxHeartbeats 4000000
set_option linter.unusedVariables false
namespace Mine
section
variable {w : World} {A : Around} {h : Heap} {mg mb : Str → Option Value}
theorem quote_spec {a : Addr} {c : Nat} {t : Tok} (hL : Lib mg mb h) (hf : IsFn h a 15 "quote" .none) (hr : A.depth + 10 < recursionLimit) (hc : c < 256) :
    Co w A (call (.ref a) [.str (S [c]) t]) h (IsS [61, hexC (c / 16), hexC (c % 16)]) := by
  intro s Q E hI hQ
  have hL' := hL.keeps hI
  refine fn_call (binds := [("c", .str (S [c]) t)]) (by omega) hL'.lim (hf.keeps hI) (fun _ _ _ _ _ _ => BindsTo.of_eq rfl) (by decide) (locs rfl) ?_
  intro L cd h₁ A' E' hns hx hLn hd hh
  rw [fr_binds1 (r := [])] at hns
  have hL1 := hL'.keeps hx
  obtain ⟨aq, its, hq1, hq2, hq3⟩ := hL1.qmap
  obtain ⟨tq, hq⟩ := hq3 c hc
  conv => arg 3; arg 1; whnf
  refine wpAny_execs_cons (ex_ret (V := IsS [61, hexC (c / 16), hexC (c % 16)]) ?_ fun v h' tk hv he => hQ v h' tk hv (hx.trans he))
  exact Co.post (ev_itemL (ev_global hL1.g hq1) hq2 (ev_ord (ev_bi hL1 (by decide) boot_ord) (ev_localS (a := [c]) hns rfl)) (by omega) (by omega) (by simpa using hq)) fun v e => ⟨tq, e⟩
end
/-! plain facts -/
theorem rowsT_long {wd : Nat} {rest : List Nat} (h : wd < rest.length) (h4 : 4 ≤ wd) : rowsT wd rest = (rest.take (cutAt wd rest) ++ [61]) :: rowsT wd (rest.drop (cutAt wd rest)) := by
  rw [rowsT.eq_def]; simp [h, h4]
theorem rowsT_short {wd : Nat} {rest : List Nat} (h : ¬ wd < rest.length) : rowsT wd rest = tailRows wd rest := by
  rw [rowsT.eq_def]; simp [h]
theorem cutAt_bounds {wd : Nat} {rest : List Nat} (h4 : 4 ≤ wd) : 1 ≤ cutAt wd rest ∧ cutAt wd rest ≤ wd - 1 := by
  unfold cutAt; split <;> (try split) <;> omega
theorem joinL_end (eol : List Nat) (xs : List (List Nat)) : joinL eol (xs ++ [[]]) = xs.flatMap (· ++ eol) := by
  induction xs with
  | nil => rfl
  | cons x r ih =>
    cases r with
    | nil => simp [joinL]
    | cons y r => rw [List.cons_append, List.cons_append, joinL.eq_3]; rw [← List.cons_append, ih]; simp; simp
theorem At.ne {h₀ h : Heap} {L D : Addr} {l : FrL} (F : At h₀ L l h) (hn : h.get? D = none) : D ≠ L := by
  rintro rfl
  obtain ⟨o, ho⟩ := F.some
  rw [hn] at ho; cases ho
theorem At.app {h₀ h h' : Heap} {L D : Addr} {l : FrL} (F : At h₀ L l h) (hD : D ≠ L) (h0 : h₀.get? D = none) (k : KB [D] h h') : At h₀ L l h' :=
  F.kb (ws := [D]) (by simpa using Ne.symm hD) (fun b hb => by rw [List.mem_singleton.mp hb]; exact h0) k
theorem flat_len {eol : List Nat} (h1 : 1 ≤ eol.length) (xs : List (List Nat)) : xs.length ≤ (xs.flatMap (· ++ eol)).length := by
  induction xs with
  | nil => simp
  | cons y r ih => rw [List.flatMap_cons, List.length_append, List.length_append, List.length_cons]; omega
theorem flat_sum (eol : List Nat) (xs : List (List Nat)) : (xs.map (·.length)).sum + xs.length * eol.length = (xs.flatMap (· ++ eol)).length := by
  induction xs with
  | nil => simp
  | cons y r ih => rw [List.map_cons, List.sum_cons, List.length_cons, Nat.add_mul, List.flatMap_cons, List.length_append, List.length_append]; omega
theorem sl_nat {a : List Nat} {i j : Nat} {x y : Int} (hx : x = i) (hy : y = j) (h1 : i ≤ j) (h2 : j ≤ a.length) : sl a (some x) (some y) = (a.drop i).take (j - i) := by
  subst hx hy
  unfold sl
  have c1 : clipN a.length (i : Int) = i := by unfold clipN; omega
  have c2 : clipN a.length (j : Int) = j := by unfold clipN; omega
  simp only [Option.map_some, Option.getD_some, c1, c2]
  rw [List.drop_take]
theorem sl_from {a : List Nat} {i : Nat} {x : Int} (hx : x = i) (h2 : i ≤ a.length) : sl a (some x) none = a.drop i := by
  subst hx
  unfold sl
  have c1 : clipN a.length (i : Int) = i := by unfold clipN; omega
  simp only [Option.map_some, Option.map_none, Option.getD_some, Option.getD_none, c1]
  rw [List.take_length]
theorem sl_butlast {a : List Nat} {i : Nat} {x : Int} (hx : x = i) (h2 : i < a.length) : sl a (some x) (some (-1)) = (a.drop i).dropLast := by
  subst hx
  unfold sl
  have c1 : clipN a.length (i : Int) = i := by unfold clipN; omega
  have c2 : clipN a.length (-1) = a.length - 1 := by unfold clipN; omega
  simp only [Option.map_some, Option.getD_some, c1, c2]
  rw [List.drop_take, List.dropLast_eq_take, List.length_drop]
  congr 1
  omega
theorem take_snoc {a : List Nat} {n c : Nat} (h : a[n]? = some c) : a.take (n + 1) = a.take n ++ [c] := by
  rw [List.take_add_one, h]; rfl
/-- the frame of body_encode -/
noncomputable abbrev encFr (body ml eol : Value) (sb m1 eb ap line start last stop room q : Option Value) : FrL :=
  [(Str.ofString "body", some body), (Str.ofString "maxlinelen", some ml), (Str.ofString "eol", some eol), (Str.ofString "soft_break", sb), (Str.ofString "maxlinelen1", m1), (Str.ofString "encoded_body", eb), (Str.ofString "append", ap),
   (Str.ofString "line", line), (Str.ofString "start", start), (Str.ofString "laststart", last), (Str.ofString "stop", stop), (Str.ofString "room", room), (Str.ofString "q", q)]
section
variable {w : World} {A : Around} {h : Heap} {mg mb : Str → Option Value}
theorem encode_body {s : Shared} {L a : Addr} {cd : Value} {body eol : List Nat} {t u tw : Tok} {wd : Nat} {h₁ : Heap} {tk : Nat} {Q : Value → Shared → Prop} {E : Value → Shared → Prop} (hL : Lib mg mb s.heap) (hr : A.depth + 20 < recursionLimit) (hh : A.handled = none)
    (hw : 4 ≤ wd) (hw2 : wd ≤ 1000)
    (hlast : body.getLast? = some 10 ∨ body.getLast? = some 13) (hok : ∀ c ∈ body, Ok c) (hsz : (body.flatMap trE).length ≤ 1000000) (hsz2 : (encL body wd eol).length ≤ 1000000) (he : eol.length ≤ 16) (he1 : 1 ≤ eol.length)
    (F : At s.heap L (encFr (.str (S body) t) (.int wd tw) (.str (S eol) u) none none none none none none none none none none) h₁)
    (hQ : ∀ v h' tk, IsS (encL body wd eol) v → Ext s.heap h' → Q v (St s h' tk)) :
    wpAny (model P w) A (execs (fBody (stAt 19)) (envOf "body_encode" (fScope (stAt 19)) L a cd)) (fun f s' => Q (match f with | .ret v => v | _ => .none) s') E (St s h₁ tk) := by
  have hlim : sizeLine = 16777216 := sizeLine_eq
  have hne : body ≠ [] := by rintro rfl; simp at hlast
  conv => arg 3; arg 1; whnf
  -- if maxlinelen < 4
  refine wpAny_execs_cons (ex_ifF (te_ltI (ev_localI (i := (wd : Int)) F.ns rfl) ev_int) (by simp; omega) fun h₂ k₂ e₂ => wpAny_execs_nil ?_)
  -- if not body
  have F2 := F.up e₂
  refine wpAny_execs_cons (ex_ifF (te_not (te_nameS (ev_localS (a := body) F2.ns rfl) (by have := trE_len body; omega))) (by simp [hne]) fun h₃ k₃ e₃ => wpAny_execs_nil ?_)
  have F3 := F2.up e₃
  obtain ⟨aE, itsE, hE1, hE2, hE3⟩ := (hL.keeps F3.ext).emap
  -- body = body.translate(..)
  refine wpAny_execs_cons (ex_assign F3 (V := IsS (body.flatMap trE)) (ev_meth1 PySem.F.slot_str_translate PySem.F.type_str_translate (ev_localS (a := body) F3.ns rfl) (ev_global (hL.keeps F3.ext).g hE1) fun t v hv => by
    subst hv
    exact co_translate hE2 hne (fun c hc => ⟨by have := hok c hc; unfold Ok at this; omega, hE3 c (by have := hok c hc; unfold Ok at this; omega)⟩) (by omega)) fun v h₄ k₄ hv F4 kb₄ => ?_)
  obtain ⟨t4, rfl⟩ := hv
  generalize hT : body.flatMap trE = T at *
  -- soft_break = '=' + eol
  refine wpAny_execs_cons (ex_assign F4 (add_str (ev_str (a := [61])) (ev_localS (a := eol) F4.ns rfl) (by simp; omega)) fun v h₅ k₅ hv F5 kb₅ => ?_)
  obtain ⟨t5, rfl⟩ := hv
  -- maxlinelen1 = maxlinelen - 1
  refine wpAny_execs_cons (ex_assign F5 (sub_i (ev_localI (i := (wd : Int)) F5.ns rfl) ev_int) fun v h₆ k₆ hv F6 kb₆ => ?_)
  obtain ⟨t6, rfl⟩ := hv
  -- encoded_body = []
  refine wpAny_execs_cons (ex_assignH F6 ev_list0 fun v q₇ h₇ k₇ hv e₇ F7 kb₇ => ?_)
  obtain ⟨D, rfl, hDn, hD7⟩ := hv
  have hDL : D ≠ L := F6.ne hDn
  have hDL' : D ∉ [L] := by simpa using hDL
  have hD7' : h₇.get? D = some (lstObj [] 0) := kb₇ _ _ hDL' hD7
  -- append = encoded_body.append
  refine wpAny_execs_cons (ex_assignH F7 (ev_append (ev_local (v := .ref D) F7.ns rfl) hD7' rfl rfl rfl) fun v q₈ h₈ k₈ hv e₈ F8 kb₈ => ?_)
  obtain ⟨bm, rfl, hbn, hb8⟩ := hv
  have hbL : bm ≠ L := F7.ne hbn
  have hbL' : bm ∉ [L] := by simpa using hbL
  have hbD : bm ≠ D := by
    rintro rfl
    rw [hbn] at hD7'; cases hD7'
  have hb8' : h₈.get? bm = some (bmObj D) := kb₈ _ _ hbL' hb8
  have hD8 : h₈.get? D = some (lstObj [] 0) := kb₈ _ _ hDL' (e₈ _ _ hD7')
  have hD0 : s.heap.get? D = none := by
    cases hq : s.heap.get? D with
    | none => rfl
    | some o => rw [F6.ext _ _ hq] at hDn; cases hDn
  -- the loop
  let B : Nat → List Nat := fun i => ((linesL T).take i).flatMap fun l => (rowsT wd l).flatMap (· ++ eol)
  have hB : ∀ i line, (linesL T)[i]? = some line → B (i + 1) = B i ++ (rowsT wd line).flatMap (· ++ eol) := by
    intro i line hi
    show ((linesL T).take (i + 1)).flatMap _ = _
    rw [List.take_add_one, hi]
    simp [B]
  have hBN : B (linesL T).length = encL body wd eol := by
    show ((linesL T).take _).flatMap _ = _
    rw [List.take_length, encL, hT, List.flatMap_assoc]
  have hBle : ∀ i, (B i).length ≤ 1000000 := by
    intro i
    refine Nat.le_trans ?_ hsz2
    rw [← hBN]
    show (((linesL T).take i).flatMap _).length ≤ (((linesL T).take _).flatMap _).length
    rw [List.take_length]
    conv => rhs; rw [← List.take_append_drop i (linesL T)]
    rw [List.flatMap_append, List.length_append]
    omega
  have hTok : ∀ c ∈ T, Ok c := fun c hc => by
    obtain ⟨d, hd, hcd⟩ := List.mem_flatMap.mp (hT ▸ hc)
    exact trE_ok (hok d hd) hcd
  let Fr1 : List Nat → Tok → Option Value → Option Value → Option Value → Option Value → Option Value → FrL := fun line tl o2 o3 o4 o5 o6 =>
    encFr (.str (S T) t4) (.int wd tw) (.str (S eol) u) (some (.str (S ([61] ++ eol)) t5)) (some (.int ((wd : Int) - 1) t6)) (some (.ref D)) (some (.ref bm)) (some (.str (S line) tl)) o2 o3 o4 o5 o6
  have hled8 : Led D bm h₈ [] := ⟨[], 0, hD8, hb8', .nil⟩
  refine wpAny_execs_cons (ex_for (fun its => StrsAre its ((linesL T).map S)) (linesL T).length (fun its hi => by rw [hi.len_eq]; simp)
    (fun i q => ∃ xs o1 o2 o3 o4 o5 o6, At s.heap L (encFr (.str (S T) t4) (.int wd tw) (.str (S eol) u) (some (.str (S ([61] ++ eol)) t5)) (some (.int ((wd : Int) - 1) t6)) (some (.ref D)) (some (.ref bm)) o1 o2 o3 o4 o5 o6) q ∧
      Led D bm q xs ∧ xs.flatMap (· ++ eol) = B i) [L, D] hh ?_ ?_ ?_ ?_ ?_ ?_)
  · -- the lines
    refine CoH.post (ev_meth0 PySem.F.slot_str_splitlines PySem.F.type_str_splitlines (ev_localS (a := T) F8.ns rfl) fun t => co_splitlines (lines_S hTok) (by omega)) ?_
    rintro v q ⟨ax, rfl, hn, vs, h1, h2⟩
    refine ⟨ax, vs, rfl, h1, ?_, h2⟩
    simp only [List.mem_cons, List.not_mem_nil, or_false, not_or]
    refine ⟨F8.ne hn, ?_⟩
    rintro rfl
    rw [hn] at hD8; cases hD8
  · intro b hb
    simp only [List.mem_cons, List.not_mem_nil, or_false] at hb
    rcases hb with rfl | rfl
    · exact F8.some
    · exact ⟨_, hD8⟩
  · intro h' e'
    exact ⟨[], none, none, none, none, none, none, F8.up e', hled8.ext e', rfl⟩
  · rintro I i q q' hI ⟨xs, o1, o2, o3, o4, o5, o6, x, hl, hxs⟩ kb
    refine ⟨xs, o1, o2, o3, o4, o5, o6, F8.fresh hI x kb, ?_, hxs⟩
    obtain ⟨vs, n, h1, h2, h3⟩ := hl
    refine ⟨vs, n, kb _ _ ?_ h1, kb _ _ ?_ h2, h3⟩
    · simp only [List.mem_singleton]
      rintro rfl
      rw [hI] at hD8; cases hD8
    · simp only [List.mem_singleton]
      rintro rfl
      rw [hI] at hb8'; cases hb8'
  · rintro i v q k E'' hiN ⟨its, hG, hv⟩ ⟨xs, o1, o2, o3, o4, o5, o6, G₀, hl₀, hxs⟩
    obtain ⟨y, tl, rfl, hy⟩ := hG.item i v hv
    obtain ⟨line, hline, rfl⟩ : ∃ line, (linesL T)[i]? = some line ∧ S line = y := by
      rw [List.getElem?_map] at hy
      cases hq : (linesL T)[i]? with
      | none => rw [hq] at hy; cases hy
      | some line => rw [hq] at hy; exact ⟨line, rfl, by simpa using hy⟩
    have hlsz : line.length ≤ 1000000 := Nat.le_trans (linesL_len (List.mem_of_getElem? hline)) hsz
    have hBn := hB i line hline
    have hBs := hBle (i + 1)
    rw [hBn, List.length_append] at hBs
    refine as_name G₀ fun h₁₀ k₁₀ F10 kb10 => ?_
    have l10 := hl₀.up kb10 hDL' hbL'
    -- start = 0
    refine wpAny_execs_cons (ex_assign F10 ev_int fun v h₁₁ k₁₁ hv F11 kb11 => ?_)
    obtain ⟨t11, rfl⟩ := hv
    have l11 := l10.up kb11 hDL' hbL'
    -- laststart = len(line) - 1 - maxlinelen
    refine wpAny_execs_cons (ex_assign F11 (sub_i (sub_i (ev_len (ev_bi (hL.keeps F11.ext) (by decide) boot_len) (ev_localS (a := line) F11.ns rfl) (by omega)) ev_int) (ev_localI (i := (wd : Int)) F11.ns rfl)) fun v h₁₂ k₁₂ hv F12 kb12 => ?_)
    obtain ⟨t12, rfl⟩ := hv
    have l12 := l11.up kb12 hDL' hbL'
    have kbL : ∀ {a b : Heap}, KB [L] a b → KB [L, D] a b := fun x => x.mono (by simp)
    have kbD : ∀ {a b : Heap}, KB [D] a b → KB [L, D] a b := fun x => x.mono (by simp)
    have kb12' : KB [L, D] q h₁₂ := ((kbL kb10).trans (kbL kb11)).trans (kbL kb12)
    -- the while
    let Fq : Nat → Tok → Option Value → Option Value → Option Value → FrL := fun p tp o4 o5 o6 =>
      encFr (.str (S T) t4) (.int wd tw) (.str (S eol) u) (some (.str (S ([61] ++ eol)) t5)) (some (.int ((wd : Int) - 1) t6)) (some (.ref D)) (some (.ref bm)) (some (.str (S line) tl)) (some (.int p tp)) (some (.int ((line.length : Int) - 1 - wd) t12)) o4 o5 o6
    refine wpAny_execs_cons (ex_while (fun m q' => ∃ (p : Nat) (ys : List (List Nat)) (tp : Tok) (o4 o5 o6 : Option Value), (p = 0 ∨ p < line.length) ∧ m = line.length - p ∧ KB [L, D] q q' ∧
        At s.heap L (Fq p tp o4 o5 o6) q' ∧ Led D bm q' ys ∧ ys.flatMap (· ++ eol) ++ (rowsT wd (line.drop p)).flatMap (· ++ eol) = B i ++ (rowsT wd line).flatMap (· ++ eol)) (line.length - 0) ?_ ?_)
    · exact ⟨0, xs, t11, o4, o5, o6, .inl rfl, rfl, kb12', F12, l12, by rw [hxs]; rfl⟩
    · rintro m q' E₃ ⟨p, ys, tp, o4, o5, o6, hp, rfl, kbq, G, hlq, hinv⟩
      have hflen : (ys.flatMap (· ++ eol)).length + ((rowsT wd (line.drop p)).flatMap (· ++ eol)).length ≤ 1000000 := by
        have := congrArg List.length hinv
        rw [List.length_append, List.length_append] at this
        omega
      have hyl : ys.length ≤ 1000000 := by
        have := flat_len he1 ys
        omega
      have hple : p ≤ line.length := by omega
      refine ⟨_, te_leI (ev_localI (i := (p : Int)) G.ns rfl) (ev_localI (i := (line.length : Int) - 1 - wd) G.ns rfl), ?_, ?_⟩
      · intro hlt h₁₃ k₁₃ e13
        have hlong : wd < (line.drop p).length := by
          rw [List.length_drop]
          have := of_decide_eq_true hlt
          omega
        rw [rowsT_long hlong hw] at hinv hflen
        have hcut := cutAt_bounds (rest := line.drop p) hw
        rw [List.length_drop] at hlong
        have G13 := G.up e13
        have l13 := hlq.ext e13
        have kb13 : KB [L, D] q h₁₃ := kbq.trans (KB.of_ext e13)
        -- stop = start + maxlinelen1
        refine wpAny_execs_cons (ex_assign G13 (add_i (ev_localI (i := (p : Int)) G13.ns rfl) (ev_localI (i := (wd : Int) - 1) G13.ns rfl)) fun v h₁₄ k₁₄ hv F14 kb14 => ?_)
        obtain ⟨t14, rfl⟩ := hv
        have l14 := l13.up kb14 hDL' hbL'
        have kb14' : KB [L, D] q h₁₄ := kb13.trans (kbL kb14)
        have hrest : ∀ k, (line.drop p)[k]? = line[p + k]? := fun k => by rw [List.getElem?_drop]
        obtain ⟨c3, hc3⟩ : ∃ c, line[p + (wd - 3)]? = some c := ⟨line[p + (wd - 3)]'(by omega), by rw [List.getElem?_eq_getElem]⟩
        obtain ⟨c2, hc2⟩ : ∃ c, line[p + (wd - 2)]? = some c := ⟨line[p + (wd - 2)]'(by omega), by rw [List.getElem?_eq_getElem]⟩
        -- the row is told; the next start
        have fin : ∀ (cut : Nat) (h₂₀ : Heap) (k₂₀ : Nat) (tp' : Tok), cutAt wd (line.drop p) = cut → KB [L, D] q h₂₀ → Led D bm h₂₀ (ys ++ [(line.drop p).take cut ++ [61]]) →
            At s.heap L (Fq (p + cut) tp' (some (.int ((p : Int) + ((wd : Int) - 1)) t14)) o5 o6) h₂₀ →
            (((Flow.next = .next ∨ Flow.next = .cont) ∧ ∃ h tk m, St s h₂₀ k₂₀ = St s h tk ∧ m < line.length - p ∧ ∃ (p : Nat) (ys : List (List Nat)) (tp : Tok) (o4 o5 o6 : Option Value), (p = 0 ∨ p < line.length) ∧ m = line.length - p ∧ KB [L, D] q h ∧
              At s.heap L (Fq p tp o4 o5 o6) h ∧ Led D bm h ys ∧ ys.flatMap (· ++ eol) ++ (rowsT wd (line.drop p)).flatMap (· ++ eol) = B i ++ (rowsT wd line).flatMap (· ++ eol))) := by
          intro cut h₂₀ k₂₀ tp' hce kb l20 G20
          rw [hce] at hcut hinv
          refine ⟨.inl rfl, h₂₀, k₂₀, line.length - (p + cut), rfl, by omega, p + cut, ys ++ [(line.drop p).take cut ++ [61]], tp', _, o5, o6, .inr (by omega), rfl, kb, G20, l20, ?_⟩
          rw [← hinv, List.flatMap_append, List.append_assoc]
          congr 1
          rw [List.flatMap_cons, List.flatMap_cons, List.flatMap_nil, List.append_nil, List.drop_drop]
        by_cases h3 : c3 = 61
        · subst h3
          have hce : cutAt wd (line.drop p) = wd - 3 := by
            unfold cutAt; rw [hrest, hc3, if_pos rfl]
          refine wpAny_execs_cons (ex_ifT (te_eqS (ev_item (k := p + (wd - 3)) (ev_localS (a := line) F14.ns rfl) (sub_i (ev_localI (i := (p : Int) + ((wd : Int) - 1)) F14.ns rfl) ev_int) (.inl (by omega)) hc3 (by omega)) (ev_str (a := [61]))) (by simp) fun h₁₅ k₁₅ e15 => ?_)
          have F15 := F14.up e15
          have hcutv : sl line (some (p : Int)) (some ((p : Int) + ((wd : Int) - 1) - 1)) = (line.drop p).take (wd - 3) ++ [61] := by
            rw [sl_nat (i := p) (j := p + (wd - 2)) rfl (by omega) (by omega) (by omega), show p + (wd - 2) - p = (wd - 3) + 1 by omega, take_snoc (c := 61)]
            rw [hrest, hc3]
          refine wpAny_execs_cons (ex_appS (a := (line.drop p).take (wd - 3) ++ [61]) (l14.ext e15) (ev_local (v := .ref bm) F15.ns rfl) (by
            rw [← hcutv]
            exact ev_slice (ev_localS (a := line) F15.ns rfl) (pt_some (ev_localI (i := (p : Int)) F15.ns rfl)) (pt_some (sub_i (ev_localI (i := (p : Int) + ((wd : Int) - 1)) F15.ns rfl) ev_int)) (by omega)) hbD (by omega) fun h₁₆ k₁₆ l16 kb16 => ?_)
          have F16 := F15.app hDL hD0 kb16
          refine wpAny_execs_cons (ex_assign F16 (sub_i (ev_localI (i := (p : Int) + ((wd : Int) - 1)) F16.ns rfl) ev_int) fun v h₁₇ k₁₇ hv F17 kb17 => wpAny_execs_nil (wpAny_execs_nil ?_))
          obtain ⟨t17, rfl⟩ := hv
          refine .inl (fin (wd - 3) h₁₇ k₁₇ t17 hce (((kb14'.trans (KB.of_ext e15)).trans (kbD kb16)).trans (kbL kb17)) (l16.up kb17 hDL' hbL') ?_)
          have hpe : ((p + (wd - 3) : Nat) : Int) = (p : Int) + ((wd : Int) - 1) - 2 := by omega
          show At s.heap L (Fq (p + (wd - 3)) t17 _ o5 o6) h₁₇
          show At s.heap L (encFr _ _ _ _ _ _ _ _ (some (.int ((p + (wd - 3) : Nat) : Int) t17)) _ _ _ _) h₁₇
          rw [hpe]
          exact F17
        · refine wpAny_execs_cons (ex_ifF (te_eqS (ev_item (k := p + (wd - 3)) (ev_localS (a := line) F14.ns rfl) (sub_i (ev_localI (i := (p : Int) + ((wd : Int) - 1)) F14.ns rfl) ev_int) (.inl (by omega)) hc3 (by omega)) (ev_str (a := [61]))) (by simp [h3]) fun h₁₅ k₁₅ e15 => ?_)
          have F15 := F14.up e15
          by_cases h2 : c2 = 61
          · subst h2
            have hce : cutAt wd (line.drop p) = wd - 2 := by
              unfold cutAt
              rw [hrest, hc3, if_neg (by simpa using h3), hrest, hc2, if_pos rfl]
            refine wpAny_execs_cons (ex_ifT (te_eqS (ev_item (k := p + (wd - 2)) (ev_localS (a := line) F15.ns rfl) (sub_i (ev_localI (i := (p : Int) + ((wd : Int) - 1)) F15.ns rfl) ev_int) (.inl (by omega)) hc2 (by omega)) (ev_str (a := [61]))) (by simp) fun h₁₆ k₁₆ e16 => ?_)
            have F16 := F15.up e16
            have hcutv : sl line (some (p : Int)) (some ((p : Int) + ((wd : Int) - 1))) = (line.drop p).take (wd - 2) ++ [61] := by
              rw [sl_nat (i := p) (j := p + (wd - 1)) rfl (by omega) (by omega) (by omega), show p + (wd - 1) - p = (wd - 2) + 1 by omega, take_snoc (c := 61)]
              rw [hrest, hc2]
            refine wpAny_execs_cons (ex_appS (a := (line.drop p).take (wd - 2) ++ [61]) ((l14.ext e15).ext e16) (ev_local (v := .ref bm) F16.ns rfl) (by
              rw [← hcutv]
              exact ev_slice (ev_localS (a := line) F16.ns rfl) (pt_some (ev_localI (i := (p : Int)) F16.ns rfl)) (pt_some (ev_localI (i := (p : Int) + ((wd : Int) - 1)) F16.ns rfl)) (by omega)) hbD (by omega) fun h₁₇ k₁₇ l17 kb17 => ?_)
            have F17 := F16.app hDL hD0 kb17
            refine wpAny_execs_cons (ex_assign F17 (sub_i (ev_localI (i := (p : Int) + ((wd : Int) - 1)) F17.ns rfl) ev_int) fun v h₁₈ k₁₈ hv F18 kb18 => wpAny_execs_nil (wpAny_execs_nil (wpAny_execs_nil ?_)))
            obtain ⟨t18, rfl⟩ := hv
            refine .inl (fin (wd - 2) h₁₈ k₁₈ t18 hce ((((kb14'.trans (KB.of_ext e15)).trans (KB.of_ext e16)).trans (kbD kb17)).trans (kbL kb18)) (l17.up kb18 hDL' hbL') ?_)
            have hpe : ((p + (wd - 2) : Nat) : Int) = (p : Int) + ((wd : Int) - 1) - 1 := by omega
            show At s.heap L (encFr _ _ _ _ _ _ _ _ (some (.int ((p + (wd - 2) : Nat) : Int) t18)) _ _ _ _) h₁₈
            rw [hpe]
            exact F18
          · have hce : cutAt wd (line.drop p) = wd - 1 := by
              unfold cutAt
              rw [hrest, hc3, if_neg (by simpa using h3), hrest, hc2, if_neg (by simpa using h2)]
            refine wpAny_execs_cons (ex_ifF (te_eqS (ev_item (k := p + (wd - 2)) (ev_localS (a := line) F15.ns rfl) (sub_i (ev_localI (i := (p : Int) + ((wd : Int) - 1)) F15.ns rfl) ev_int) (.inl (by omega)) hc2 (by omega)) (ev_str (a := [61]))) (by simp [h2]) fun h₁₆ k₁₆ e16 => ?_)
            have F16 := F15.up e16
            have hcutv : sl line (some (p : Int)) (some ((p : Int) + ((wd : Int) - 1))) = (line.drop p).take (wd - 1) := by
              rw [sl_nat (i := p) (j := p + (wd - 1)) rfl (by omega) (by omega) (by omega), show p + (wd - 1) - p = wd - 1 by omega]
            refine wpAny_execs_cons (ex_appS (a := (line.drop p).take (wd - 1) ++ [61]) ((l14.ext e15).ext e16) (ev_local (v := .ref bm) F16.ns rfl) (by
              rw [← hcutv]
              exact add_str (ev_slice (ev_localS (a := line) F16.ns rfl) (pt_some (ev_localI (i := (p : Int)) F16.ns rfl)) (pt_some (ev_localI (i := (p : Int) + ((wd : Int) - 1)) F16.ns rfl)) (by omega)) (ev_str (a := [61])) (by have := sl_le line (some (p : Int)) (some ((p : Int) + ((wd : Int) - 1))); simp; omega)) hbD (by omega) fun h₁₇ k₁₇ l17 kb17 => ?_)
            have F17 := F16.app hDL hD0 kb17
            refine wpAny_execs_cons (ex_assign F17 (ev_localI (i := (p : Int) + ((wd : Int) - 1)) F17.ns rfl) fun v h₁₈ k₁₈ hv F18 kb18 => wpAny_execs_nil (wpAny_execs_nil (wpAny_execs_nil ?_)))
            obtain ⟨t18, rfl⟩ := hv
            refine .inl (fin (wd - 1) h₁₈ k₁₈ t18 hce ((((kb14'.trans (KB.of_ext e15)).trans (KB.of_ext e16)).trans (kbD kb17)).trans (kbL kb18)) (l17.up kb18 hDL' hbL') ?_)
            have hpe : ((p + (wd - 1) : Nat) : Int) = (p : Int) + ((wd : Int) - 1) := by omega
            show At s.heap L (encFr _ _ _ _ _ _ _ _ (some (.int ((p + (wd - 1) : Nat) : Int) t18)) _ _ _ _) h₁₈
            rw [hpe]
            exact F18
      · intro hge h₁₃ k₁₃ e13
        have hshort : ¬ wd < (line.drop p).length := by
          rw [List.length_drop]
          have := of_decide_eq_false hge
          omega
        rw [rowsT_short hshort] at hinv hflen
        rw [List.length_drop] at hshort
        have G13 := G.up e13
        have l13 := hlq.ext e13
        have kb13 : KB [L, D] q h₁₃ := kbq.trans (KB.of_ext e13)
        have hB1 : B (i + 1) = ys.flatMap (· ++ eol) ++ (tailRows wd (line.drop p)).flatMap (· ++ eol) := by rw [hBn, hinv]
        -- the last piece is told
        have fin : ∀ (a : List Nat) (h₂₀ : Heap) (k₂₀ : Nat) (o5 o6 : Option Value), a ++ eol = (tailRows wd (line.drop p)).flatMap (· ++ eol) → KB [L, D] q h₂₀ → Led D bm h₂₀ (ys ++ [a]) → At s.heap L (Fq p tp o4 o5 o6) h₂₀ →
            ((Flow.next = .next ∨ Flow.next = .cont) ∧ ∃ h₃ tk₃, St s h₂₀ k₂₀ = St s h₃ tk₃ ∧ (∃ xs o1 o2 o3 o4 o5 o6, At s.heap L (encFr (.str (S T) t4) (.int wd tw) (.str (S eol) u) (some (.str (S ([61] ++ eol)) t5)) (some (.int ((wd : Int) - 1) t6)) (some (.ref D)) (some (.ref bm)) o1 o2 o3 o4 o5 o6) h₃ ∧
              Led D bm h₃ xs ∧ xs.flatMap (· ++ eol) = B (i + 1)) ∧ KB [L, D] q h₃) := by
          intro a h₂₀ k₂₀ o5 o6 ha kb l20 G20
          refine ⟨.inl rfl, h₂₀, k₂₀, rfl, ⟨ys ++ [a], _, _, _, _, _, _, G20, l20, ?_⟩, kb⟩
          rw [hB1, List.flatMap_append, ← ha]
          simp
        by_cases hle : line = []
        · -- an empty line
          have hp0 : p = 0 := by
            subst hle
            rcases hp with h | h
            · exact h
            · simp at h
          refine wpAny_execs_cons (ex_ifF (te_and (b := false) (te_nameS (ev_localS (a := line) G13.ns rfl) (by omega)) (fun q => absurd hle (by simpa using q))) (by simp) fun h₁₄ k₁₄ e14 => ?_)
          have G14 := G13.up e14
          refine wpAny_execs_cons (ex_appS (a := line.drop p) (l13.ext e14) (ev_local (v := .ref bm) G14.ns rfl) (by
            rw [← sl_from (a := line) (i := p) (x := (p : Int)) rfl hple]
            exact ev_slice (ev_localS (a := line) G14.ns rfl) (pt_some (ev_localI (i := (p : Int)) G14.ns rfl)) pt_none (by omega)) hbD (by omega) fun h₁₅ k₁₅ l15 kb15 => wpAny_execs_nil (wpAny_execs_nil ?_))
          refine fin _ h₁₅ k₁₅ o5 o6 ?_ ((kb13.trans (KB.of_ext e14)).trans (kbD kb15)) l15 (G14.app hDL hD0 kb15)
          subst hle
          simp [tailRows, markOf]
        · have hlen : 0 < line.length := List.length_pos_iff.mpr hle
          have hplt : p < line.length := by omega
          obtain ⟨c, hc⟩ : ∃ c, line[line.length - 1]? = some c := ⟨line[line.length - 1]'(by omega), by rw [List.getElem?_eq_getElem]⟩
          have hlast' : (line.drop p).getLast? = some c := by
            rw [List.getLast?_eq_getElem?, List.length_drop, List.getElem?_drop, show p + (line.length - p - 1) = line.length - 1 by omega]
            exact hc
          have hdl : (line.drop p).dropLast ++ [c] = line.drop p := by
            have hne' : line.drop p ≠ [] := by
              intro e
              rw [e] at hlast'; cases hlast'
            have := List.dropLast_concat_getLast hne'
            rw [List.getLast?_eq_some_getLast hne'] at hlast'
            rw [← Option.some.inj hlast']
            exact this
          by_cases hcb : c ∈ [32, 9]
          · -- a blank at the end
            have hmark : markOf (line.drop p) = [61, hexC (c / 16), hexC (c % 16)] := by
              unfold markOf
              rw [hlast']
              simp only [List.mem_cons, List.not_mem_nil, or_false] at hcb
              rcases hcb with rfl | rfl <;> rfl
            have hc256 : c < 256 := by
              simp only [List.mem_cons, List.not_mem_nil, or_false] at hcb
              omega
            generalize hm : [61, hexC (c / 16), hexC (c % 16)] = mark at *
            have hmne : mark ≠ [] := by rw [← hm]; simp
            have hml : mark.length = 3 := by rw [← hm]; rfl
            refine wpAny_execs_cons (ex_ifT (te_and (te_nameS (ev_localS (a := line) G13.ns rfl) (by omega)) (fun _ => te_in1 (ev_item (k := line.length - 1) (ev_localS (a := line) G13.ns rfl) (ev_neg ev_int) (.inr (by omega)) hc (by omega)) (ev_str (a := [32, 9])))) (by simp only [ne_eq, hle, not_false_eq_true, decide_true, Bool.true_and, decide_eq_true_eq]; exact hcb) fun h₁₄ k₁₄ e14 => ?_)
            have G14 := G13.up e14
            -- room = start - laststart
            refine wpAny_execs_cons (ex_assign G14 (sub_i (ev_localI (i := (p : Int)) G14.ns rfl) (ev_localI (i := (line.length : Int) - 1 - wd) G14.ns rfl)) fun v h₁₅ k₁₅ hv F15 kb15 => ?_)
            obtain ⟨t15, rfl⟩ := hv
            have l15 := (l13.ext e14).up kb15 hDL' hbL'
            have kb15' : KB [L, D] q h₁₅ := (kb13.trans (KB.of_ext e14)).trans (kbL kb15)
            obtain ⟨aq, haq, hfq⟩ := hL.quo
            have hquo : ∀ {q : Heap}, Ext s.heap q → ∀ {t : Tok}, Co w A (call (.ref aq) [.str (S [c]) t]) q (IsS mark) := fun e => by
              rw [← hm]
              exact (quote_spec hL hfq (by omega) hc256).up e
            have hrl : (line.drop p).length = line.length - p := List.length_drop
            refine wpAny_execs_cons (wpAny_mono (Q := fun f s₃ => f = .next ∧ ∃ h tk z tz, s₃ = St s h tk ∧ z.length ≤ 1000 ∧ ((line.drop p).dropLast ++ z) ++ eol = (tailRows wd (line.drop p)).flatMap (· ++ eol) ∧ KB [L, D] q h ∧ Led D bm h ys ∧
              At s.heap L (Fq p tp o4 (some (.int ((p : Int) - ((line.length : Int) - 1 - wd)) t15)) (some (.str (S z) tz))) h) ?_ ?_ fun _ _ e => e)
            · by_cases hr3 : line.length - p ≤ wd - 2
              · refine ex_ifT (te_geI (ev_localI (i := (p : Int) - ((line.length : Int) - 1 - wd)) F15.ns rfl) ev_int) (by simp; omega) fun h₁₆ k₁₆ e16 => ?_
                have F16 := F15.up e16
                refine wpAny_execs_cons (ex_assign F16 (V := IsS mark) (ev_fn1 (ev_global (hL.keeps F16.ext).g haq) (hfq.keeps F16.ext) (ev_item (k := line.length - 1) (ev_localS (a := line) F16.ns rfl) (ev_neg ev_int) (.inr (by omega)) hc (by omega)) (fun v hv => by
                  obtain ⟨tv, rfl⟩ := hv
                  exact hquo F16.ext)) fun v h₁₇ k₁₇ hv F17 kb17 => wpAny_execs_nil ?_)
                obtain ⟨t17, rfl⟩ := hv
                refine ⟨rfl, h₁₇, k₁₇, mark, t17, rfl, by omega, ?_, (kb15'.trans (KB.of_ext e16)).trans (kbL kb17), (l15.ext e16).up kb17 hDL' hbL', F17⟩
                unfold tailRows
                rw [hmark, if_neg hmne, hrl, if_pos hr3]
                simp
              · refine ex_ifF (te_geI (ev_localI (i := (p : Int) - ((line.length : Int) - 1 - wd)) F15.ns rfl) ev_int) (by simp; omega) fun h₁₆ k₁₆ e16 => ?_
                have F16 := F15.up e16
                by_cases hr2 : line.length - p = wd - 1
                · refine wpAny_execs_cons (ex_ifT (te_eqI (ev_localI (i := (p : Int) - ((line.length : Int) - 1 - wd)) F16.ns rfl) ev_int) (by simp; omega) fun h₁₇ k₁₇ e17 => ?_)
                  have F17 := F16.up e17
                  refine wpAny_execs_cons (ex_assign F17 (add_str (ev_item (k := line.length - 1) (ev_localS (a := line) F17.ns rfl) (ev_neg ev_int) (.inr (by omega)) hc (by omega)) (ev_localS (a := [61] ++ eol) F17.ns rfl) (by simp; omega)) fun v h₁₈ k₁₈ hv F18 kb18 => wpAny_execs_nil (wpAny_execs_nil ?_))
                  obtain ⟨t18, rfl⟩ := hv
                  refine ⟨rfl, h₁₈, k₁₈, [c] ++ ([61] ++ eol), t18, rfl, by simp; omega, ?_, ((kb15'.trans (KB.of_ext e16)).trans (KB.of_ext e17)).trans (kbL kb18), ((l15.ext e16).ext e17).up kb18 hDL' hbL', F18⟩
                  unfold tailRows
                  rw [hmark, if_neg hmne, hrl, if_neg hr3, if_pos hr2, ← List.append_assoc, hdl]
                  simp
                · refine wpAny_execs_cons (ex_ifF (te_eqI (ev_localI (i := (p : Int) - ((line.length : Int) - 1 - wd)) F16.ns rfl) ev_int) (by simp; omega) fun h₁₇ k₁₇ e17 => ?_)
                  have F17 := F16.up e17
                  refine wpAny_execs_cons (ex_assign F17 (V := IsS (([61] ++ eol) ++ mark)) (add_str (ev_localS (a := [61] ++ eol) F17.ns rfl) (ev_fn1 (ev_global (hL.keeps F17.ext).g haq) (hfq.keeps F17.ext) (ev_item (k := line.length - 1) (ev_localS (a := line) F17.ns rfl) (ev_neg ev_int) (.inr (by omega)) hc (by omega)) (fun v hv => by
                    obtain ⟨tv, rfl⟩ := hv
                    exact hquo F17.ext)) (by simp; omega)) fun v h₁₈ k₁₈ hv F18 kb18 => wpAny_execs_nil (wpAny_execs_nil ?_))
                  obtain ⟨t18, rfl⟩ := hv
                  refine ⟨rfl, h₁₈, k₁₈, ([61] ++ eol) ++ mark, t18, rfl, by simp; omega, ?_, ((kb15'.trans (KB.of_ext e16)).trans (KB.of_ext e17)).trans (kbL kb18), ((l15.ext e16).ext e17).up kb18 hDL' hbL', F18⟩
                  unfold tailRows
                  rw [hmark, if_neg hmne, hrl, if_neg hr3, if_neg hr2]
                  simp
            · rintro f s₃ ⟨rfl, h₂₀, k₂₀, z, tz, rfl, hz, hzeq, kb20, l20, G20⟩
              refine wpAny_execs_cons (ex_appS (a := (line.drop p).dropLast ++ z) l20 (ev_local (v := .ref bm) G20.ns rfl) (by
                rw [← sl_butlast (a := line) (i := p) (x := (p : Int)) rfl hplt]
                exact add_str (ev_slice (ev_localS (a := line) G20.ns rfl) (pt_some (ev_localI (i := (p : Int)) G20.ns rfl)) (pt_some (ev_neg ev_int)) (by omega)) (ev_localS (a := z) G20.ns rfl) (by have := sl_le line (some (p : Int)) (some (-1)); omega)) hbD (by omega) fun h₂₁ k₂₁ l21 kb21 => wpAny_execs_nil (wpAny_execs_nil ?_))
              exact fin _ h₂₁ k₂₁ _ _ hzeq (kb20.trans (kbD kb21)) l21 (G20.app hDL hD0 kb21)
          · have hmark : markOf (line.drop p) = [] := by
              unfold markOf
              rw [hlast']
              simp only [List.mem_cons, List.not_mem_nil, or_false, not_or] at hcb
              split
              · rename_i q; exact absurd (Option.some.inj q) hcb.1
              · rename_i q; exact absurd (Option.some.inj q) hcb.2
              · rfl
            refine wpAny_execs_cons (ex_ifF (te_and (te_nameS (ev_localS (a := line) G13.ns rfl) (by omega)) (fun _ => te_in1 (ev_item (k := line.length - 1) (ev_localS (a := line) G13.ns rfl) (ev_neg ev_int) (.inr (by omega)) hc (by omega)) (ev_str (a := [32, 9])))) (by rw [decide_eq_false hcb, Bool.and_false]) fun h₁₄ k₁₄ e14 => ?_)
            have G14 := G13.up e14
            refine wpAny_execs_cons (ex_appS (a := line.drop p) (l13.ext e14) (ev_local (v := .ref bm) G14.ns rfl) (by
              rw [← sl_from (a := line) (i := p) (x := (p : Int)) rfl hple]
              exact ev_slice (ev_localS (a := line) G14.ns rfl) (pt_some (ev_localI (i := (p : Int)) G14.ns rfl)) pt_none (by omega)) hbD (by omega) fun h₁₅ k₁₅ l15 kb15 => wpAny_execs_nil (wpAny_execs_nil ?_))
            refine fin _ h₁₅ k₁₅ o5 o6 ?_ ((kb13.trans (KB.of_ext e14)).trans (kbD kb15)) l15 (G14.app hDL hD0 kb15)
            simp [tailRows, hmark]
  · rintro h' k ⟨xs, o1, o2, o3, o4, o5, o6, G, hl, hxs⟩
    rw [hBN] at hxs
    have hxl : xs.length ≤ 1000000 := by
      have h1 := flat_len he1 xs
      rw [hxs] at h1; omega
    -- if body[-1] in CRLF
    have hTl : T.getLast? = body.getLast? := by rw [← hT]; exact trE_last hlast
    obtain ⟨c, hc, hcc⟩ : ∃ c, T.getLast? = some c ∧ c ∈ [13, 10] := by
      rcases hlast with q | q
      · exact ⟨10, hTl.trans q, by simp⟩
      · exact ⟨13, hTl.trans q, by simp⟩
    have hTne : T ≠ [] := fun e => by rw [e] at hc; cases hc
    have hlen : 0 < T.length := List.length_pos_iff.mpr hTne
    have hidx : T[T.length - 1]? = some c := by rw [← List.getLast?_eq_getElem?]; exact hc
    obtain ⟨tcr, hcr⟩ := hL.crlf
    refine wpAny_execs_cons (ex_ifT (te_in1 (ev_item (k := T.length - 1) (ev_localS (a := T) G.ns rfl) (ev_neg ev_int) (.inr (by omega)) hidx (by omega)) (ev_globalS (hL.keeps G.ext).g hcr)) (by simp only [decide_eq_true_eq]; exact hcc) fun h₂₀ k₂₀ e20 => ?_)
    have G20 := G.up e20
    refine wpAny_execs_cons (ex_appS (hl.ext e20) (ev_local (v := .ref bm) G20.ns rfl) (ev_str (a := [])) hbD (by omega) fun h₂₁ k₂₁ l21 kb21 => wpAny_execs_nil ?_)
    have G21 := G20.app hDL hD0 kb21
    refine wpAny_execs_cons (ex_ret (V := IsS (encL body wd eol)) ?_ fun v h₂₂ k₂₂ hv e22 => hQ v h₂₂ k₂₂ hv (G21.ext.trans e22))
    rw [← hxs, ← joinL_end]
    refine ev_meth1 PySem.F.slot_str_join PySem.F.type_str_join (ev_localS (a := eol) G21.ns rfl) (ev_local (v := .ref D) G21.ns rfl) fun t v hv => ?_
    subst hv
    refine co_join l21.list ?_
    rw [flat_sum, List.flatMap_append, hxs, List.length_append]
    simp
    omega
end
end Mine

/-! ### QE1 -/
open PySem PySem.W PyProof.Rows PySem.Calls
set_option Elab.async false
set_option maxRecDepth 100000
set_option maxHeartbeats 4000000
set_option linter.unusedVariables false
namespace Mine
section
variable {w : World} {A : Around} {h : Heap} {mg mb : Str → Option Value}
theorem encode_spec {a : Addr} {body eol : List Nat} {t u tw : Tok} {wd : Nat} {dV d1 d2 : Value} (hL : Lib mg mb h) (hf : IsFn h a 19 "body_encode" dV) (hdV : DefTup h dV #[d1, d2]) (hr : A.depth + 30 < recursionLimit) (hh : A.handled = none)
    (hw : 4 ≤ wd) (hw2 : wd ≤ 1000)
    (hlast : body.getLast? = some 10 ∨ body.getLast? = some 13) (hok : ∀ c ∈ body, Ok c) (hsz : (body.flatMap trE).length ≤ 1000000) (hsz2 : (encL body wd eol).length ≤ 1000000) (he : eol.length ≤ 16) (he1 : 1 ≤ eol.length) :
    Co w A (call (.ref a) [.str (S body) t, .int wd tw, .str (S eol) u]) h (IsS (encL body wd eol)) := by
  intro s Q E hI hQ
  have hL' := hL.keeps hI
  refine fn_call (binds := [("body", .str (S body) t), ("maxlinelen", .int wd tw), ("eol", .str (S eol) u)]) (by omega) hL'.lim (hf.keeps hI) (fun _ _ _ _ _ _ => by obtain ⟨T, o, n, rfl, ho, hd⟩ := hdV; exact BindsTo.of_defaults rfl (hI _ _ ho) hd rfl rfl) (by decide) (locs rfl) ?_
  intro L cd h₁ A' E' hns hx hLn hd hh'
  rw [fr_binds3 (r := [Str.ofString "soft_break", Str.ofString "maxlinelen1", Str.ofString "encoded_body", Str.ofString "append", Str.ofString "line", Str.ofString "start", Str.ofString "laststart", Str.ofString "stop", Str.ofString "room", Str.ofString "q"]) rfl rfl rfl] at hns
  exact encode_body hL' (by omega) (by rw [hh']; exact hh) hw hw2 hlast hok hsz hsz2 he he1 ⟨hns, hx, hLn⟩ hQ
theorem encode_spec1 {a : Addr} {body : List Nat} {t t1 t2 : Tok} {dV : Value} (hL : Lib mg mb h) (hf : IsFn h a 19 "body_encode" dV) (hdV : DefTup h dV #[.int 76 t1, .str (S [10]) t2]) (hr : A.depth + 30 < recursionLimit) (hh : A.handled = none)
    (hlast : body.getLast? = some 10 ∨ body.getLast? = some 13) (hok : ∀ c ∈ body, Ok c) (hsz : (body.flatMap trE).length ≤ 1000000) (hsz2 : (encL body 76 [10]).length ≤ 1000000) :
    Co w A (call (.ref a) [.str (S body) t]) h (IsS (encL body 76 [10])) := by
  intro s Q E hI hQ
  have hL' := hL.keeps hI
  refine fn_call (binds := [("body", .str (S body) t), ("maxlinelen", .int 76 t1), ("eol", .str (S [10]) t2)]) (by omega) hL'.lim (hf.keeps hI) (fun _ _ _ _ _ _ => by obtain ⟨T, o, n, rfl, ho, hd⟩ := hdV; exact BindsTo.of_defaults rfl (hI _ _ ho) hd rfl rfl) (by decide) (locs rfl) ?_
  intro L cd h₁ A' E' hns hx hLn hd hh'
  rw [fr_binds3 (r := [Str.ofString "soft_break", Str.ofString "maxlinelen1", Str.ofString "encoded_body", Str.ofString "append", Str.ofString "line", Str.ofString "start", Str.ofString "laststart", Str.ofString "stop", Str.ofString "room", Str.ofString "q"]) rfl rfl rfl] at hns
  exact encode_body (wd := 76) hL' (by omega) (by rw [hh']; exact hh) (by omega) (by omega) hlast hok hsz hsz2 (by simp) (by simp) ⟨hns, hx, hLn⟩ hQ
end
end Mine

/-! ### QH -/
open PySem PySem.W PyProof.Rows PySem.Calls
set_option Elab.async false
set_option maxRecDepth 100000
set_option maxHeartbeats 4000000
set_option linter.unusedVariables false
namespace Mine
/-! ## comprehensions -/
section
variable {w : World} {A : Around} {h : Heap} {env : Env} {pos px : Pos} {x : Str} {e iter elt : Expr}
theorem ev_localM {m : Str → Option Value} {v : Value} (hn : h.Ns env.locals m) (hv : m x = some v)
    (hk : env.scope.kind = .function := by rfl) (hl : env.kindOf x = some .local := by rfl) (hd : (x == ("__debug__" : Str)) = false := by rfl) : Ev w A env h (.Name x pos) (IsV v) :=
  fun s _ _ e hQ => wpAny_Name (wpAny_loadName_local hk hl (hn.keeps e) hv (hQ v s.heap s.toks rfl (Ext.refl _))) hd
theorem ev_localMS {m : Str → Option Value} {a : List Nat} {t : Tok} (hn : h.Ns env.locals m) (hv : m x = some (.str (S a) t))
    (hk : env.scope.kind = .function := by rfl) (hl : env.kindOf x = some .local := by rfl) (hd : (x == ("__debug__" : Str)) = false := by rfl) : Ev w A env h (.Name x pos) (IsS a) :=
  (ev_localM hn hv hk hl hd).post fun v e => ⟨t, e⟩
theorem ev_localMI {m : Str → Option Value} {i : Int} {t : Tok} (hn : h.Ns env.locals m) (hv : m x = some (.int i t))
    (hk : env.scope.kind = .function := by rfl) (hl : env.kindOf x = some .local := by rfl) (hd : (x == ("__debug__" : Str)) = false := by rfl) : Ev w A env h (.Name x pos) (IsI i) :=
  (ev_localM hn hv hk hl hd).post fun v e => ⟨t, e⟩
/-- a captured name -/
theorem ev_cell {c : Addr} {v : Value} (hc : env.cells.lookup x = some c) (hv : h.IsCell c (some v))
    (hk : env.scope.kind = .function := by rfl) (hl : env.kindOf x = some .cell := by rfl) (hd : (x == ("__debug__" : Str)) = false := by rfl) : Ev w A env h (.Name x pos) (IsV v) :=
  fun s _ _ e hQ => wpAny_Name (wpAny_loadName_cell hk hl hc (let ⟨o, h1, h2⟩ := hv; ⟨o, e _ _ h1, h2⟩) (hQ v s.heap s.toks rfl (Ext.refl _))) hd
theorem ev_free {c : Addr} {v : Value} (hc : env.cells.lookup x = some c) (hv : h.IsCell c (some v))
    (hk : env.scope.kind = .function := by rfl) (hl : env.kindOf x = some .free := by rfl) (hd : (x == ("__debug__" : Str)) = false := by rfl) (hn : (x == ("__classdict__" : Str)) = false := by rfl) : Ev w A env h (.Name x pos) (IsV v) :=
  fun s _ _ e hQ => wpAny_Name (wpAny_loadName_free hk hl hc (let ⟨o, h1, h2⟩ := hv; ⟨o, e _ _ h1, h2⟩) (hQ v s.heap s.toks rfl (Ext.refl _)) hn) hd
/-- what a loop may run over: its iterator and what it hands out -/
noncomputable def Src (w : World) (A : Around) (env : Env) (h : Heap) (iter : Expr) (N : Nat) (Pv : Nat → Value → Prop) : Prop :=
  ∀ (s : Shared) (Q : Value → Shared → Prop) (E : Value → Shared → Prop), Ext h s.heap →
    (∀ (I : Addr) (fp wr : List Addr) (St' : Nat → Heap → Prop) (h₂ : Heap) (tk : Nat), Walks P w A I fp wr N Pv St' → St' 0 h₂ → (∀ b ∈ fp, b < h₂.objs.size) → (∀ b ∈ wr, s.heap.get? b = none) → Ext s.heap h₂ → Q (.ref I) (St s h₂ tk)) →
    wpAny (model P w) A (eval iter env) (fun xv s₁ => wpAny (model P w) A (pyIter xv) Q E s₁) E s
theorem src_list {G : List Value → Prop} {N : Nat} {Pv : Nat → Value → Prop} (hh : A.handled = none) (hit : EvH w A env h iter fun v h' => ∃ ax its, v = .ref ax ∧ h'.IsList ax its.toArray ∧ G its) (hN : ∀ its, G its → its.length = N)
    (hP : ∀ its, G its → ∀ i v, its[i]? = some v → Pv i v) : Src w A env h iter N Pv := by
  intro s Q E hI hQ
  refine hit s _ E hI fun v h₁ k₁ hv e₁ => ?_
  obtain ⟨ax, its, rfl, hl, hG⟩ := hv
  refine wpAny_pyIter_list (s := St s h₁ k₁) hl ?_
  show Q (.ref h₁.objs.size) (St s (h₁.push _) k₁)
  have hfr : ∀ {q : Heap}, Ext q h₁ → q.get? h₁.objs.size = none := fun e => fresh_size e
  have hne : ax ≠ h₁.objs.size := by
    intro q
    obtain ⟨o, ho, _⟩ := hl
    rw [q, hfr (Ext.refl _)] at ho; cases ho
  have W := Walks.list (prog := P) (w := w) (A := A) hh h₁.objs.size ax hne its.toArray
  have W' : Walks P w A h₁.objs.size [h₁.objs.size, ax] [h₁.objs.size] N Pv (fun i h => h.IsListIter h₁.objs.size ax i ∧ h.IsList ax its.toArray) := by
    have hs : its.toArray.size = N := by rw [List.size_toArray]; exact hN its hG
    refine ⟨W.sub, W.frame, fun i s Q E hi st hq => W.item i s Q E (by rw [hs]; exact hi) st fun v h' tk hp st' k => hq v h' tk (hP its hG i v (by simpa using hp)) st' k, fun s Q E st hq => W.done s Q E (by rw [hs]; exact st) hq, W.self⟩
  refine hQ _ _ _ _ _ _ W' ⟨⟨_, Heap.get?_push_size _ rfl, rfl, rfl⟩, hl.at fun o q => Heap.get?_push_of_some _ q⟩ ?_ ?_ (e₁.trans (Ext.push _ _))
  · intro b hb
    have hlt : ax < h₁.objs.size := by obtain ⟨o, ho, _⟩ := hl; exact Heap.lt_size ho
    rw [Heap.size_push]
    simp only [List.mem_cons, List.not_mem_nil, or_false] at hb
    rcases hb with rfl | rfl
    · exact Nat.lt_succ_self _
    · exact Nat.lt_succ_of_lt hlt
  · intro b hb
    rw [List.mem_singleton.mp hb]
    exact hfr e₁
theorem src_str {a : List Nat} (hh : A.handled = none) (hit : Ev w A env h iter (IsS a)) : Src w A env h iter a.length (fun i v => ∃ c u, a[i]? = some c ∧ v = .str (S [c]) u) := by
  intro s Q E hI hQ
  refine hit s _ E hI fun v h₁ k₁ hv e₁ => ?_
  obtain ⟨t, rfl⟩ := hv
  refine wpAny_pyIter_str (s := St s h₁ k₁) fun o St' W hst => ?_
  show Q (.ref h₁.objs.size) (St s (h₁.push o) k₁)
  have W := W A hh
  have W' : Walks P w A h₁.objs.size [h₁.objs.size] [h₁.objs.size] a.length (fun i v => ∃ c u, a[i]? = some c ∧ v = .str (S [c]) u) St' := by
    have hs : (PySem.Str.mk a.toArray).cps.size = a.length := by simp
    refine ⟨W.sub, W.frame, fun i s Q E hi st hq => W.item i s Q E (by rw [hs]; exact hi) st fun v h' tk hp st' k => hq v h' tk ?_ st' k, fun s Q E st hq => W.done s Q E (by rw [hs]; exact st) hq, W.self⟩
    obtain ⟨c, u, h1, h2⟩ := hp
    exact ⟨c, u, by simpa using h1, h2⟩
  refine hQ _ _ _ _ _ _ W' hst ?_ ?_ (e₁.trans (Ext.push _ _))
  · intro b hb
    rw [Heap.size_push, List.mem_singleton.mp hb]; exact Nat.lt_succ_self _
  · intro b hb
    rw [List.mem_singleton.mp hb]
    exact fresh_size e₁
theorem ev_comp {ifs : List Expr} {scope : Scope} {cl : List (Str × Addr)} {N : Nat} {Pv : Nat → Value → Prop} (p : Value → Bool) (F : Value → Value → Prop) (hsrc : Src w A env h iter N Pv) (hsz : N ≤ sizeLine)
    (htests : ∀ C h' m i v E' (s : Shared), Ext h h' → s.heap = h' → h'.Ns C m → m x = some v → Pv i v →
      wpAny (model P w) A (forIn ifs true fun c r => if r = true then do let ok ← PySem.isTrue c (compEnvC scope cl C env) (eval c (compEnvC scope cl C env)); pure (ForInStep.yield ok) else pure (ForInStep.yield r)) (fun ok s₄ => ok = p v ∧ Keeps s s₄) E' s)
    (helt : ∀ C h' m i v, Ext h h' → h'.Ns C m → m x = some v → Pv i v → p v = true → Ev w A (compEnvC scope cl C env) h' elt (F v))
    (hclos : closureFor scope env = pure cl := by rfl) (hcell : ∀ y ∈ scope.names, y.2 ≠ .cell := by decide) (hkind : scope.kind = .function := by rfl)
    (hnames : ∀ y ∈ scope.names, y.2 = .local → scope.names.lookup y.1 = some .local := by decide) (hx : scope.names.lookup x = some .local := by rfl)
    (hs : ∀ x, foldedSetIterable iter env x = pure x := by intro _; rfl) :
    EvH w A env h (.ListComp elt [⟨.Name x px, iter, ifs, 0⟩] scope pos) fun r h' => ∃ (D : Addr) (ys : Array Value) (vs : List Value), r = .ref D ∧ h.get? D = none ∧ h'.PlainList D ys ∧ vs.length = N ∧ (∀ j v, vs[j]? = some v → Pv j v) ∧ Paired F (vs.filter p) ys.toList := by
  intro s Q E hI hQ
  refine wpAny_ListComp_free p F hclos hcell hkind hnames hx ?_ hs
  refine hsrc s _ E hI fun I fp wr St' h₂ tk W hst hfp hwr e₂ => ?_
  have ext : ∀ {q : Heap}, (∀ b o, b ∉ wr → h₂.get? b = some o → q.get? b = some o) → Ext h q := fun k b o e => k b o (fun q => by have := hI _ _ e; rw [hwr b q] at this; cases this) (e₂ _ _ (hI _ _ e))
  refine ⟨I, fp, wr, N, Pv, St', rfl, W, hsz, hst, hfp, ⟨?_, ?_⟩, ?_⟩
  · intro C i v s₃ m₃ E' hC hv hn hm hk ht
    exact htests C s₃.heap m₃ i v E' s₃ (ext hk) rfl hn hm hv
  · intro C i v s₃ m₃ E' hC hv hpv hn hm hk ht
    exact helt C s₃.heap m₃ i v (ext hk) hn hm hv hpv s₃ _ E' (Ext.refl _) fun y q k hy he => ⟨hy, q, k, rfl, he⟩
  · intro D h' tk' ys vs hD hl hpl hlen hP hF hk
    have hD0 : h.get? D = none := by
      cases hq : h.get? D with
      | none => rfl
      | some o =>
        have := e₂ _ _ (hI _ _ hq)
        have hD' : h₂.get? D = none := hD
        rw [hD'] at this; cases this
    refine hQ _ h' tk' ⟨D, ys, vs, rfl, hD0, hpl, hlen, hP, hF⟩ fun b o e => ?_
    exact hk b o (fun q => by rw [hwr b q] at e; cases e) (e₂ _ _ e)
end
end Mine

/-! ### QH1 -/
open PySem PySem.W PyProof.Rows PySem.Calls
set_option Elab.async false
set_option maxRecDepth 100000
set_option maxHeartbeats 4000000
set_option linter.unusedVariables false
namespace Mine
noncomputable def strP (p : List Nat → Bool) (v : Value) : Bool := match v with | .str x _ => p x.cps.toList | _ => false
noncomputable def strF (f : List Nat → List Nat) (v y : Value) : Prop := ∀ x t, v = .str (S x) t → IsS (f x) y
theorem paired_strs {p : List Nat → Bool} {f : List Nat → List Nat} : ∀ {vs : List Value} {xs : List (List Nat)} {ys : List Value}, StrsAre vs (xs.map S) → Paired (strF f) (vs.filter (strP p)) ys → StrsAre ys (((xs.filter p).map f).map S) := by
  intro vs
  induction vs with
  | nil =>
    intro xs ys hv hp
    cases xs with
    | nil => cases hp; exact .nil
    | cons x r => cases hv
  | cons v r ih =>
    intro xs ys hv hp
    cases xs with
    | nil => cases hv
    | cons x xr =>
      rw [List.map_cons] at hv
      cases hv with
      | cons _ t hr =>
        have hps : strP p (.str (S x) t) = p x := by simp [strP]
        rw [List.filter_cons, hps] at hp
        rw [List.filter_cons]
        cases hpx : p x with
        | false =>
          rw [hpx] at hp
          simp only [Bool.false_eq_true, if_false] at hp ⊢
          exact ih hr hp
        | true =>
          rw [hpx] at hp
          simp only [if_true] at hp ⊢
          cases hp with
          | cons h1 h2 =>
            obtain ⟨u, rfl⟩ := h1 x t rfl
            rw [List.map_cons, List.map_cons]
            exact .cons _ _ (ih hr h2)
theorem strs_of {xs : List (List Nat)} : ∀ {vs : List Value}, vs.length = xs.length → (∀ (j : Nat) (v : Value), vs[j]? = some v → ∃ y t, xs[j]? = some y ∧ v = .str (S y) t) → StrsAre vs (xs.map S) := by
  induction xs with
  | nil => intro vs hl _; rw [List.eq_nil_of_length_eq_zero hl]; exact .nil
  | cons x r ih =>
    intro vs hl hp
    cases vs with
    | nil => simp at hl
    | cons v vr =>
      obtain ⟨y, t, h1, h2⟩ := hp 0 v rfl
      simp only [List.getElem?_cons_zero, Option.some.injEq] at h1
      subst h1 h2
      rw [List.map_cons]
      exact .cons _ _ (ih (by simpa using hl) fun j v hj => by simpa using hp (j + 1) v (by simpa using hj))
noncomputable abbrev SAt (xs : List (List Nat)) : Nat → Value → Prop := fun i v => ∃ y t, xs[i]? = some y ∧ v = .str (S y) t
section
variable {w : World} {A : Around} {h : Heap} {env : Env} {pos px : Pos} {x : Str} {e iter elt : Expr}
theorem src_strs {xs : List (List Nat)} (hh : A.handled = none) (hit : EvH w A env h iter fun v h' => ∃ ax, v = .ref ax ∧ IsStrL h' ax xs) : Src w A env h iter xs.length (SAt xs) := by
  refine src_list (G := fun its => StrsAre its (xs.map S)) hh (CoH.post hit ?_) (fun its hG => by rw [hG.len_eq]; simp) ?_
  · rintro v q ⟨ax, rfl, vs, h1, h2⟩
    exact ⟨ax, vs, rfl, h1, h2⟩
  · intro its hG i v hv
    obtain ⟨y, t, rfl, hy⟩ := hG.item i v hv
    rw [List.getElem?_map] at hy
    cases hq : xs[i]? with
    | none => rw [hq] at hy; cases hy
    | some z =>
      rw [hq] at hy
      simp only [Option.map_some, Option.some.injEq] at hy
      exact ⟨z, t, hq, by rw [hy]⟩
theorem src_signs {a : List Nat} (hh : A.handled = none) (hit : Ev w A env h iter (IsS a)) : Src w A env h iter (a.map fun c => [c]).length (SAt (a.map fun c => [c])) := by
  have hs := src_str hh hit
  intro s Q E hI hQ
  refine hs s Q E hI fun I fp wr St' h₂ tk W a1 a2 a3 a4 => hQ I fp wr St' h₂ tk ?_ a1 a2 a3 a4
  rw [List.length_map]
  refine ⟨W.sub, W.frame, fun i s Q E hi st hq => W.item i s Q E hi st fun v h' tk hp st' k => hq v h' tk ?_ st' k, W.done, W.self⟩
  obtain ⟨c, u, h1, h2⟩ := hp
  exact ⟨[c], u, by rw [List.getElem?_map, h1]; rfl, h2⟩
theorem ev_compS0 {scope : Scope} {cl : List (Str × Addr)} {xs : List (List Nat)} (f : List Nat → List Nat) (hsrc : Src w A env h iter xs.length (SAt xs)) (hsz : xs.length ≤ sizeLine)
    (helt : ∀ C h' m y t, Ext h h' → h'.Ns C m → m x = some (.str (S y) t) → y ∈ xs → Ev w A (compEnvC scope cl C env) h' elt (IsS (f y)))
    (hclos : closureFor scope env = pure cl := by rfl) (hcell : ∀ y ∈ scope.names, y.2 ≠ .cell := by decide) (hkind : scope.kind = .function := by rfl)
    (hnames : ∀ y ∈ scope.names, y.2 = .local → scope.names.lookup y.1 = some .local := by decide) (hx : scope.names.lookup x = some .local := by rfl)
    (hs : ∀ x, foldedSetIterable iter env x = pure x := by intro _; rfl) :
    EvH w A env h (.ListComp elt [⟨.Name x px, iter, [], 0⟩] scope pos) fun r h' => ∃ D, r = .ref D ∧ h.get? D = none ∧ IsStrL h' D (xs.map f) := by
  refine CoH.post (ev_comp (strP fun _ => true) (strF f) hsrc hsz ?_ ?_ hclos hcell hkind hnames hx hs) ?_
  · rintro C h' m i v E' s he rfl hn hm ⟨y, t, h1, rfl⟩
    exact wpAny_tests_nil ⟨rfl, s.heap, s.toks, rfl, fun _ _ e => e⟩
  · rintro C h' m i v he hn hm ⟨y, t, h1, rfl⟩ _
    refine Co.post (helt C h' m y t he hn hm (List.mem_of_getElem? h1)) fun r hr x' t' e => ?_
    have : S y = S x' := by cases e; rfl
    rw [← S_inj.mp this]; exact hr
  · rintro r h' ⟨D, ys, vs, rfl, hD, hpl, hlen, hP, hF⟩
    refine ⟨D, rfl, hD, ys.toList, ?_, ?_⟩
    · rw [show ys.toList.toArray = ys by simp]; exact hpl.isList
    · have := paired_strs (p := fun _ => true) (strs_of hlen hP) hF
      rwa [List.filter_eq_self.mpr (fun _ _ => rfl)] at this
theorem ev_compS1 {scope : Scope} {cl : List (Str × Addr)} {xs : List (List Nat)} {c : Expr} (p : List Nat → Bool) (f : List Nat → List Nat) (hsrc : Src w A env h iter xs.length (SAt xs)) (hsz : xs.length ≤ sizeLine)
    (htest : ∀ C h' m y t, Ext h h' → h'.Ns C m → m x = some (.str (S y) t) → y ∈ xs → Te w A (compEnvC scope cl C env) h' c (p y))
    (helt : ∀ C h' m y t, Ext h h' → h'.Ns C m → m x = some (.str (S y) t) → y ∈ xs → p y = true → Ev w A (compEnvC scope cl C env) h' elt (IsS (f y)))
    (hclos : closureFor scope env = pure cl := by rfl) (hcell : ∀ y ∈ scope.names, y.2 ≠ .cell := by decide) (hkind : scope.kind = .function := by rfl)
    (hnames : ∀ y ∈ scope.names, y.2 = .local → scope.names.lookup y.1 = some .local := by decide) (hx : scope.names.lookup x = some .local := by rfl)
    (hs : ∀ x, foldedSetIterable iter env x = pure x := by intro _; rfl) :
    EvH w A env h (.ListComp elt [⟨.Name x px, iter, [c], 0⟩] scope pos) fun r h' => ∃ D, r = .ref D ∧ h.get? D = none ∧ IsStrL h' D ((xs.filter p).map f) := by
  refine CoH.post (ev_comp (strP p) (strF f) hsrc hsz ?_ ?_ hclos hcell hkind hnames hx hs) ?_
  · rintro C h' m i v E' s he rfl hn hm ⟨y, t, h1, rfl⟩
    refine wpAny_tests_one (htest C s.heap m y t he hn hm (List.mem_of_getElem? h1) s _ E' (Ext.refl _) fun b q k hb he' => ⟨?_, q, k, rfl, he'⟩)
    rw [hb]; simp [strP]
  · rintro C h' m i v he hn hm ⟨y, t, h1, rfl⟩ hp
    have hp' : p y = true := by simpa [strP] using hp
    refine Co.post (helt C h' m y t he hn hm (List.mem_of_getElem? h1) hp') fun r hr x' t' e => ?_
    have : S y = S x' := by cases e; rfl
    rw [← S_inj.mp this]; exact hr
  · rintro r h' ⟨D, ys, vs, rfl, hD, hpl, hlen, hP, hF⟩
    refine ⟨D, rfl, hD, ys.toList, ?_, ?_⟩
    · rw [show ys.toList.toArray = ys by simp]; exact hpl.isList
    · exact paired_strs (strs_of hlen hP) hF
end
end Mine

/-! ### QW -/
open PySem PySem.W PyProof.Rows PySem.Calls
set_option Elab.async false
set_option maxRecDepth 100000
set_option maxHeartbeats 4000000
set_option linter.unusedVariables false
namespace Mine
section
variable {w : World} {A : Around} {s : Shared} {hp : Heap} {tk₀ : Nat} {env : Env} {E : Value → Shared → Prop} {Q : Flow → Shared → Prop} {pos px p y_ : Pos} {x y : Str} {e iter elt : Expr} {h₀ : Heap} {l : FrL}
/-- y = [elt for x in iter if ..] -/
theorem ex_assignC {ifs : List Expr} {scope : Scope} {cl : List (Str × Addr)} {N : Nat} {Pv : Nat → Value → Prop} {py spos : Pos} (pr : Value → Bool) (F : Value → Value → Prop) (At₀ : At h₀ env.locals l hp) (hsrc : Src w A env hp iter N Pv) (hsz : N ≤ sizeLine)
    (htests : ∀ C h' m i v E' (s : Shared), Ext hp h' → s.heap = h' → h'.Ns C m → m x = some v → Pv i v →
      wpAny (model P w) A (forIn ifs true fun c r => if r = true then do let ok ← PySem.isTrue c (compEnvC scope cl C env) (eval c (compEnvC scope cl C env)); pure (ForInStep.yield ok) else pure (ForInStep.yield r)) (fun ok s₄ => ok = pr v ∧ Keeps s s₄) E' s)
    (helt : ∀ C h' m i v, Ext hp h' → h'.Ns C m → m x = some v → Pv i v → pr v = true → Ev w A (compEnvC scope cl C env) h' elt (F v))
    (k : ∀ (D : Addr) (ys : Array Value) (vs : List Value) h' tk, hp.get? D = none → h'.PlainList D ys → vs.length = N → (∀ j v, vs[j]? = some v → Pv j v) → Paired F (vs.filter pr) ys.toList →
      At h₀ env.locals (setL l y (.ref D)) h' → KB [env.locals] hp h' → Q .next (St s h' tk))
    (hsw : swapsWith (.ListComp elt [⟨.Name x px, iter, ifs, 0⟩] scope pos) (some (.Name y py)) spos.line env = pure true := by rfl)
    (hclos : closureFor scope env = pure cl := by rfl) (hcell : ∀ y ∈ scope.names, y.2 ≠ .cell := by decide) (hkind : scope.kind = .function := by rfl)
    (hnames : ∀ y ∈ scope.names, y.2 = .local → scope.names.lookup y.1 = some .local := by decide) (hx : scope.names.lookup x = some .local := by rfl)
    (hy : env.kindOf y = some .local := by rfl) (hk : env.scope.kind = .function := by rfl)
    (hs : ∀ x, foldedSetIterable iter env x = pure x := by intro _; rfl) :
    wpAny (model P w) A (exec (.Assign [.Name y py] (.ListComp elt [⟨.Name x px, iter, ifs, 0⟩] scope pos) spos) env) Q E (St s hp tk₀) := by
  refine wpAny_Assign_ListComp_free pr F hsw hclos hcell hkind hnames hx hy (by rw [hk]; rfl) ?_ hs
  refine hsrc (St s hp tk₀) _ E (Ext.refl _) fun I fp wr St' h₂ tk W hst hfp hwr e₂ => ?_
  have ext : ∀ {q : Heap}, (∀ b o, b ∉ wr → h₂.get? b = some o → q.get? b = some o) → Ext hp q := fun k b o e => k b o (fun q => by have := hwr b q; rw [show (St s hp tk₀).heap = hp from rfl, e] at this; cases this) (e₂ _ _ e)
  refine ⟨I, fp, wr, N, Pv, St', fr l, rfl, W, hsz, hst, hfp, ?_, At₀.ns.keeps e₂, ⟨?_, ?_⟩, ?_⟩
  · intro q
    obtain ⟨o, ho⟩ := At₀.some
    have := hwr _ q
    rw [show (St s hp tk₀).heap = hp from rfl, ho] at this; cases this
  · intro C i v s₃ m₃ E' hC hv hn hm hk ht
    exact htests C s₃.heap m₃ i v E' s₃ (ext hk) rfl hn hm hv
  · intro C i v s₃ m₃ E' hC hv hpv hn hm hk ht
    exact helt C s₃.heap m₃ i v (ext hk) hn hm hv hpv s₃ _ E' (Ext.refl _) fun y q k hy he => ⟨hy, q, k, rfl, he⟩
  · intro D h' tk' ys vs hD hl hpl hlen hP hF hn hk'
    have hD0 : hp.get? D = none := by
      cases hq : hp.get? D with
      | none => rfl
      | some o =>
        have := e₂ _ _ hq
        have hD' : h₂.get? D = none := hD
        rw [hD'] at this; cases this
    have kb : KB [env.locals] hp h' := fun b o hb e => hk' b o (by simpa using hb) (fun q => by have := hwr b q; rw [show (St s hp tk₀).heap = hp from rfl, e] at this; cases this) (e₂ _ _ e)
    refine k D ys vs h' tk' hD0 hpl hlen hP hF ⟨by rw [← fr_setL]; exact hn, fun b o e => kb b o ?_ (At₀.ext b o e), At₀.out⟩ kb
    simp only [List.mem_singleton]
    rintro rfl
    rw [At₀.out] at e; cases e
theorem ex_assignCS1 {scope : Scope} {cl : List (Str × Addr)} {xs : List (List Nat)} {c : Expr} {py spos : Pos} (pr : List Nat → Bool) (f : List Nat → List Nat) (At₀ : At h₀ env.locals l hp) (hsrc : Src w A env hp iter xs.length (SAt xs)) (hsz : xs.length ≤ sizeLine)
    (htest : ∀ C h' m y t, Ext hp h' → h'.Ns C m → m x = some (.str (S y) t) → y ∈ xs → Te w A (compEnvC scope cl C env) h' c (pr y))
    (helt : ∀ C h' m y t, Ext hp h' → h'.Ns C m → m x = some (.str (S y) t) → y ∈ xs → pr y = true → Ev w A (compEnvC scope cl C env) h' elt (IsS (f y)))
    (k : ∀ (D : Addr) h' tk, hp.get? D = none → IsStrL h' D ((xs.filter pr).map f) → At h₀ env.locals (setL l y (.ref D)) h' → KB [env.locals] hp h' → Q .next (St s h' tk))
    (hsw : swapsWith (.ListComp elt [⟨.Name x px, iter, [c], 0⟩] scope pos) (some (.Name y py)) spos.line env = pure true := by rfl)
    (hclos : closureFor scope env = pure cl := by rfl) (hcell : ∀ y ∈ scope.names, y.2 ≠ .cell := by decide) (hkind : scope.kind = .function := by rfl)
    (hnames : ∀ y ∈ scope.names, y.2 = .local → scope.names.lookup y.1 = some .local := by decide) (hx : scope.names.lookup x = some .local := by rfl)
    (hy : env.kindOf y = some .local := by rfl) (hk : env.scope.kind = .function := by rfl)
    (hs : ∀ x, foldedSetIterable iter env x = pure x := by intro _; rfl) :
    wpAny (model P w) A (exec (.Assign [.Name y py] (.ListComp elt [⟨.Name x px, iter, [c], 0⟩] scope pos) spos) env) Q E (St s hp tk₀) := by
  refine ex_assignC (strP pr) (strF f) At₀ hsrc hsz ?_ ?_ ?_ hsw hclos hcell hkind hnames hx hy hk hs
  · rintro C h' m i v E' s he rfl hn hm ⟨y, t, h1, rfl⟩
    refine wpAny_tests_one (htest C s.heap m y t he hn hm (List.mem_of_getElem? h1) s _ E' (Ext.refl _) fun b q k hb he' => ⟨?_, q, k, rfl, he'⟩)
    rw [hb]; simp [strP]
  · rintro C h' m i v he hn hm ⟨y, t, h1, rfl⟩ hp
    have hp' : pr y = true := by simpa [strP] using hp
    refine Co.post (helt C h' m y t he hn hm (List.mem_of_getElem? h1) hp') fun r hr x' t' e => ?_
    have : S y = S x' := by cases e; rfl
    rw [← S_inj.mp this]; exact hr
  · rintro D ys vs h' tk hD hpl hlen hP hF hA kb
    refine k D h' tk hD ⟨ys.toList, ?_, ?_⟩ hA kb
    · rw [show ys.toList.toArray = ys by simp]; exact hpl.isList
    · exact paired_strs (strs_of hlen hP) hF
theorem ev_lenL {D : Addr} {its : Array Value} (hf : Ev w A env hp (.Name x px) (IsV (.builtin "len"))) (ha : Ev w A env hp e (IsV (.ref D))) (hl : hp.IsList D its) (hsz : its.size < 2 ^ 62)
    (hs : starEach [e] env = [(false, eval e env)] := by rfl) : Ev w A env hp (.Call (.Name x px) [e] [] pos) (IsI its.size) := by
  refine Co.call1 (f := .none) hf ha ?_ hs
  rintro _ rfl
  intro s Q E hI hQ
  exact call_len_list (hl.at fun o q => hI _ o q) (by omega) (hQ _ s.heap _ ⟨_, rfl⟩ (Ext.refl _))
end
theorem filter_singles (p : List Nat → Bool) (z : List Nat) : (z.map fun c => [c]).filter p = (z.filter fun c => p [c]).map fun c => [c] := by
  induction z with
  | nil => rfl
  | cons c r ih =>
    rw [List.map_cons, List.filter_cons, List.filter_cons, ih]
    split <;> simp
theorem len_two : ∀ z : List Nat, z.length = 2 → ∃ x y, z = [x, y]
  | [x, y], _ => ⟨x, y, rfl⟩
theorem joinL_nil (xs : List (List Nat)) : joinL [] xs = xs.flatten := by
  induction xs with
  | nil => rfl
  | cons x r ih =>
    cases r with
    | nil => simp [joinL]
    | cons y r => rw [joinL.eq_3, ih]; simp; simp
theorem join_singles (z : List Nat) : joinL [] (z.map fun c => [c]) = z := by
  rw [joinL_nil]
  induction z with
  | nil => rfl
  | cons c r ih => simpa using ih
/-- the frame of _law_raw -/
noncomputable abbrev rawFr (row ends : Value) (told k figures : Option Value) : FrL :=
  [(Str.ofString "row", some row), (Str.ofString "ends", some ends), (Str.ofString "told", told), (Str.ofString "k", k), (Str.ofString "figures", figures)]
section
variable {w : World} {A : Around} {h : Heap} {mg mb : Str → Option Value}
theorem raw_spec {a : Addr} {row ends : List Nat} {t u : Tok} (hL : Lib mg mb h) (hf : IsFn h a 27 "_law_raw" .none) (hr : A.depth + 20 < recursionLimit) (hh : A.handled = none)
    (hsz : row.length ≤ 1000000) (hsz2 : (decRow ends (rstripL row)).length ≤ 1000000) (he : ends.length ≤ 16) :
    Co w A (call (.ref a) [.str (S row) t, .str (S ends) u]) h (IsS (decRow ends (rstripL row))) := by
  have hlim : sizeLine = 16777216 := sizeLine_eq
  intro s Q E hI hQ
  have hL' := hL.keeps hI
  refine fn_call (binds := [("row", .str (S row) t), ("ends", .str (S ends) u)]) (by omega) hL'.lim (hf.keeps hI) (fun _ _ _ _ _ _ => BindsTo.of_eq rfl) (by decide) (locs rfl) ?_
  intro L cd h₁ A' E' hns hx hLn hd hh'
  rw [fr_binds2 (r := [Str.ofString "told", Str.ofString "k", Str.ofString "figures"]) rfl] at hns
  have F : At s.heap L (rawFr (.str (S row) t) (.str (S ends) u) none none none) h₁ := ⟨hns, hx, hLn⟩
  conv => arg 3; arg 1; whnf
  -- row = row.rstrip(' \t')
  refine wpAny_execs_cons (ex_assign F (V := IsS (rstripL row)) (ev_meth1 PySem.F.slot_str_rstrip PySem.F.type_str_rstrip (ev_localS (a := row) F.ns rfl) (ev_str (a := [32, 9])) fun t v hv => by
    obtain ⟨u, rfl⟩ := hv
    exact co_rstripBl (by omega)) fun v h₂ k₂ hv F2 kb2 => ?_)
  obtain ⟨t2, rfl⟩ := hv
  have hrsz : (rstripL row).length ≤ 1000000 := Nat.le_trans (by
    unfold rstripL
    have := takeWhile_len_eq isBl row.reverse
    simp at this ⊢
    omega) hsz
  generalize hr' : rstripL row = r at *
  -- told = ''
  refine wpAny_execs_cons (ex_assign F2 (ev_str (a := [])) fun v h₃ k₃ hv F3 kb3 => ?_)
  obtain ⟨t3, rfl⟩ := hv
  -- k = 0
  refine wpAny_execs_cons (ex_assign F3 ev_int fun v h₄ k₄ hv F4 kb4 => ?_)
  obtain ⟨t4, rfl⟩ := hv
  -- the while
  refine wpAny_execs_cons (ex_while (fun m q => ∃ (j : Nat) (d : List Nat) (td ti : Tok) (o : Option Value), j ≤ r.length ∧ m = r.length - j ∧
      At s.heap L (rawFr (.str (S r) t2) (.str (S ends) u) (some (.str (S d) td)) (some (.int j ti)) o) q ∧ d ++ (if j = r.length then ends else decGo ends (r.drop j)) = decRow ends r) (r.length - 0) ?_ ?_)
  · refine ⟨0, [], t3, t4, none, Nat.zero_le _, rfl, F4, ?_⟩
    unfold decRow
    by_cases hre : r = []
    · subst hre; simp
    · have : ¬ 0 = r.length := fun e => hre (List.eq_nil_of_length_eq_zero e.symm)
      simp [this, hre]
  · rintro m q E₃ ⟨j, d, td, ti, o, hj, rfl, G, hinv⟩
    refine ⟨_, te_ltI (ev_localI (i := (j : Int)) G.ns rfl) (ev_len (ev_bi (hL'.keeps G.ext) (by decide) boot_len) (ev_localS (a := r) G.ns rfl) (by omega)), ?_, ?_⟩
    · intro hlt h₅ k₅ e5
      have hjlt : j < r.length := by simpa using hlt
      rw [if_neg (by omega)] at hinv
      have hdl : d.length + (decGo ends (r.drop j)).length ≤ 1000000 := by
        have := congrArg List.length hinv
        rw [List.length_append] at this
        omega
      have G5 := G.up e5
      obtain ⟨c, hc⟩ : ∃ c, r[j]? = some c := ⟨r[j], by simp [hjlt]⟩
      have hdrop : r.drop j = c :: r.drop (j + 1) := by
        rw [List.drop_eq_getElem_cons hjlt]
        congr 1
        rw [List.getElem?_eq_getElem hjlt] at hc
        exact Option.some.inj hc
      have hnil : ∀ k, (r.drop k = []) ↔ r.length ≤ k := fun k => List.drop_eq_nil_iff
      rw [hdrop] at hdl hinv
      -- figures
      let z : List Nat := sl r (some ((j : Int) + 1)) (some ((j : Int) + 3))
      have hz : z = (r.drop (j + 1)).take 2 := by
        show sl r _ _ = _
        unfold sl
        have c1 : clipN r.length ((j : Int) + 1) = j + 1 := by unfold clipN; omega
        have c2 : clipN r.length ((j : Int) + 3) = min (j + 3) r.length := by unfold clipN; omega
        simp only [Option.map_some, Option.getD_some, c1, c2]
        rw [List.drop_take, show (r.drop (j + 1)).take 2 = (r.drop (j + 1)).take (min 2 (r.length - (j + 1))) by
          rw [← List.length_drop, List.take_eq_take_iff]; simp]
        congr 1
        omega
      refine wpAny_execs_cons (ex_assignCS1 (xs := z.map fun c => [c]) (fun y => decide (y.headD 0 ∈ hexL)) id G5 (src_signs (by rw [hh']; exact hh) (ev_slice (ev_localS (a := r) G5.ns rfl) (pt_some (add_i (ev_localI (i := (j : Int)) G5.ns rfl) ev_int)) (pt_some (add_i (ev_localI (i := (j : Int)) G5.ns rfl) ev_int)) (by omega)))
        (by rw [List.length_map]; have := sl_le r (some ((j : Int) + 1)) (some ((j : Int) + 3)); show (sl r _ _).length ≤ _; omega) ?_ ?_ fun D h₆ k₆ hD hl6 F6 kb6 => ?_)
      · intro C h' m y t he hn hm hy
        obtain ⟨c, _, rfl⟩ := List.mem_map.mp hy
        exact te_in1 (ev_localMS hn hm) (ev_str (a := hexL))
      · intro C h' m y t he hn hm hy _
        exact ev_localMS hn hm
      have F6' : At s.heap L (rawFr (.str (S r) t2) (.str (S ends) u) (some (.str (S d) td)) (some (.int j ti)) (some (.ref D))) h₆ := F6
      rw [filter_singles, List.map_id] at hl6
      have hfl : (List.filter (fun c => decide ([c].headD 0 ∈ hexL)) z) = z.filter (fun c => decide (c ∈ hexL)) := rfl
      rw [hfl] at hl6
      by_cases hsoft : c = 61 ∧ j + 1 = r.length
      · -- a soft end
        obtain ⟨rfl, hend⟩ := hsoft
        refine wpAny_execs_cons (ex_ifT (te_and (te_eqS (ev_item (k := j) (ev_localS (a := r) F6'.ns rfl) (ev_localI (i := (j : Int)) F6'.ns rfl) (.inl rfl) hc (by omega)) (ev_str (a := [61]))) (fun _ => te_eqI (add_i (ev_localI (i := (j : Int)) F6'.ns rfl) ev_int) (ev_len (ev_bi (hL'.keeps F6'.ext) (by decide) boot_len) (ev_localS (a := r) F6'.ns rfl) (by omega)))) (by simp; omega) fun h₇ k₇ e7 => ?_)
        have F7 := F6'.up e7
        refine wpAny_execs_cons (ex_ret (ev_localS (a := d) F7.ns rfl) fun v h₈ k₈ hv e8 => ?_)
        refine .inr ⟨v, rfl, ?_⟩
        rw [(hnil (j + 1)).mpr (by omega), decGo_end, List.append_nil] at hinv
        rw [hinv] at hv
        exact hQ v h₈ k₈ hv (F7.ext.trans e8)
      · refine wpAny_execs_cons (ex_ifF (te_and (te_eqS (ev_item (k := j) (ev_localS (a := r) F6'.ns rfl) (ev_localI (i := (j : Int)) F6'.ns rfl) (.inl rfl) hc (by omega)) (ev_str (a := [61]))) (fun _ => te_eqI (add_i (ev_localI (i := (j : Int)) F6'.ns rfl) ev_int) (ev_len (ev_bi (hL'.keeps F6'.ext) (by decide) boot_len) (ev_localS (a := r) F6'.ns rfl) (by omega)))) (by
            rw [Bool.eq_false_iff]
            intro q
            simp at q
            exact hsoft ⟨q.1, by omega⟩) fun h₇ k₇ e7 => wpAny_execs_nil ?_)
        have F7 := F6'.up e7
        have hl7 := hl6.up e7
        obtain ⟨vs, hv1, hv2⟩ := hl7
        have hvl : vs.toArray.size = (z.filter fun c => decide (c ∈ hexL)).length := by
          rw [List.size_toArray, hv2.len_eq]; simp
        have hzl : z.length ≤ 2 := by rw [hz]; simp; omega
        have hfl2 : (z.filter fun c => decide (c ∈ hexL)).length ≤ z.length := List.length_filter_le _ _
        refine wpAny_execs_cons (ex_if (te_and (te_eqS (ev_item (k := j) (ev_localS (a := r) F7.ns rfl) (ev_localI (i := (j : Int)) F7.ns rfl) (.inl rfl) hc (by omega)) (ev_str (a := [61]))) (fun _ => te_eqI (ev_lenL (ev_bi (hL'.keeps F7.ext) (by decide) boot_len) (ev_local (v := .ref D) F7.ns rfl) hv1 (by omega)) ev_int)) fun h₈ k₈ e8 => ?_)
        have F8 := F7.up e8
        by_cases hcc : c = 61 ∧ (z.filter fun c => decide (c ∈ hexL)).length = 2
        · -- an escape
          obtain ⟨rfl, h2⟩ := hcc
          rw [if_pos (by simp [hvl, h2])]
          obtain ⟨x, y, hxy⟩ := len_two z (by omega)
          have hall : z.filter (fun c => decide (c ∈ hexL)) = z := List.filter_eq_self.mpr (List.length_filter_eq_length_iff.mp (by omega))
          have hxh : x ∈ hexL := by
            have := List.filter_eq_self.mp hall x (by rw [hxy]; simp)
            simpa using this
          have hyh : y ∈ hexL := by
            have := List.filter_eq_self.mp hall y (by rw [hxy]; simp)
            simpa using this
          have hd1 : r.drop (j + 1) = x :: y :: r.drop (j + 3) := by
            have e1 : r.drop (j + 1) = (r.drop (j + 1)).take 2 ++ (r.drop (j + 1)).drop 2 := (List.take_append_drop 2 _).symm
            rw [← hz, hxy, List.drop_drop] at e1
            exact e1
          rw [hd1, decGo_hex hxh hyh] at hdl hinv
          simp only [List.length_cons] at hdl
          have hjl : j + 3 ≤ r.length := by
            have := congrArg List.length hd1
            simp at this
            omega
          have hl8 : IsStrL h₈ D [[x], [y]] := by
            have := hl6.up (e7.trans e8)
            rw [hall, hxy] at this
            exact this
          have h1 : ∀ a ∈ hexL, hv a < 16 := by decide
          have := h1 x hxh
          have := h1 y hyh
          refine wpAny_execs_cons (ex_assign F8 (add_str (a := d) (b := [16 * hv x + hv y]) (ev_localS (a := d) F8.ns rfl) (ev_chr (ev_bi (hL'.keeps F8.ext) (by decide) boot_chr) (Co.callT2 (ev_bi (hL'.keeps F8.ext) (by decide) PyProof.Rows.boot_int)
            (Va := IsS [x, y]) (ev_meth1 PySem.F.slot_str_join PySem.F.type_str_join (ev_str (a := [])) (ev_local (v := .ref D) F8.ns rfl) fun t v hv => by
              subst hv
              exact co_join (sep := []) hl8 (by simp)) ev_int (by
                rintro _ _ ⟨t, rfl⟩ ⟨u, rfl⟩
                exact co_int16 hxh hyh)) (by omega)) (by simp; omega)) fun v h₉ k₉ hv F9 kb9 => ?_)
          obtain ⟨t9, rfl⟩ := hv
          refine wpAny_execs_cons (ex_assign F9 (add_i (ev_localI (i := (j : Int)) F9.ns rfl) ev_int) fun v h₁₀ k₁₀ hv F10 kb10 => wpAny_execs_nil (wpAny_execs_nil (.inl ⟨.inl rfl, h₁₀, k₁₀, r.length - (j + 3), rfl, by omega, ?_⟩)))
          obtain ⟨t10, rfl⟩ := hv
          refine ⟨j + 3, d ++ [16 * hv x + hv y], t9, t10, some (.ref D), hjl, rfl, F10, ?_⟩
          rw [← hinv, List.append_assoc]
          congr 1
          simp only [List.singleton_append]
          congr 1
          by_cases hq : j + 3 = r.length
          · rw [if_pos hq, if_pos ((hnil _).mpr (by omega))]
          · rw [if_neg hq, if_neg fun e => hq (by have := (hnil _).mp e; omega)]
        · -- the sign itself
          rw [if_neg (by
            intro q
            simp [hvl] at q
            exact hcc ⟨q.1, by omega⟩)]
          have hgo : decGo ends (c :: r.drop (j + 1)) = c :: (if j + 1 = r.length then ends else decGo ends (r.drop (j + 1))) := by
            by_cases hc61 : c = 61
            · subst hc61
              have hje : ¬ j + 1 = r.length := fun e => hsoft ⟨rfl, e⟩
              rw [if_neg hje]
              match hd1 : r.drop (j + 1) with
              | [] => exact absurd ((hnil _).mp hd1) (by omega)
              | [x] => rw [decGo_one]
              | x :: y :: r' =>
                refine decGo_not fun q => hcc ⟨rfl, ?_⟩
                rw [hz, hd1]
                simp [q.1, q.2]
            · rw [decGo_ne hc61]
              congr 1
              by_cases hq : j + 1 = r.length
              · rw [if_pos hq, if_pos ((hnil _).mpr (by omega))]
              · rw [if_neg hq, if_neg fun e => hq (by have := (hnil _).mp e; omega)]
          rw [hgo] at hdl hinv
          simp only [List.length_cons] at hdl
          refine wpAny_execs_cons (ex_assign F8 (add_str (ev_localS (a := d) F8.ns rfl) (ev_item (k := j) (ev_localS (a := r) F8.ns rfl) (ev_localI (i := (j : Int)) F8.ns rfl) (.inl rfl) hc (by omega)) (by simp; omega)) fun v h₉ k₉ hv F9 kb9 => ?_)
          obtain ⟨t9, rfl⟩ := hv
          refine wpAny_execs_cons (ex_assign F9 (add_i (ev_localI (i := (j : Int)) F9.ns rfl) ev_int) fun v h₁₀ k₁₀ hv F10 kb10 => wpAny_execs_nil (wpAny_execs_nil (.inl ⟨.inl rfl, h₁₀, k₁₀, r.length - (j + 1), rfl, by omega, ?_⟩)))
          obtain ⟨t10, rfl⟩ := hv
          refine ⟨j + 1, d ++ [c], t9, t10, some (.ref D), by omega, rfl, F10, ?_⟩
          rw [← hinv, List.append_assoc]
          rfl
    · intro hge h₅ k₅ e5
      have hje : j = r.length := by
        have : ¬ (j : Int) < r.length := by simpa using hge
        omega
      rw [if_pos hje] at hinv
      have hdl : d.length + ends.length ≤ 1000000 := by
        have := congrArg List.length hinv
        rw [List.length_append] at this
        omega
      have G5 := G.up e5
      refine wpAny_execs_cons (ex_ret (V := IsS (decRow ends r)) (by
        rw [← hinv]
        exact add_str (ev_localS (a := d) G5.ns rfl) (ev_localS (a := ends) G5.ns rfl) (by omega)) fun v h₆ k₆ hv e6 => hQ v h₆ k₆ hv (G5.ext.trans e6))
end
end Mine

/-! ### QJ -/
open PySem PySem.W PyProof.Rows PySem.Calls
set_option Elab.async false
set_option maxRecDepth 100000
set_option maxHeartbeats 4000000
set_option linter.unusedVariables false
namespace Mine
/-! ## functions with captured names -/
noncomputable def IsFnC := IsFn
section
variable {w : World} {A : Around} {s : Shared} {E : Value → Shared → Prop}
theorem fn_callC {k : Nat} {name : Str} {a : Addr} {args : List Value} {binds : List (Str × Value)} {Q : Value → Shared → Prop}
    (hroom : A.depth < recursionLimit) (hlim : s.heap.NoLimit) (hfn : IsFn s.heap a k name .none)
    (hbind : ∀ kV doc pm an cd ct, bindArgs (fnOf name name (fArgs (stAt k)) (fBody (stAt k)) (fScope (stAt k)) .none kV doc pm an cd ct) ⟨args, []⟩ = pure binds)
    (hkind : ∀ n, ∀ x ∈ binds, (fScope (stAt k)).names.lookup x.1 = some .local ∨ ((fScope (stAt k)).names.lookup x.1 = some .cell ∧ ((cellsFrom n (fScope (stAt k)).names []).lookup x.1).isSome = true))
    (h : ∀ L cd h₁ tk A' E', h₁.Ns L (bindL (envOfC name (fScope (stAt k)) L a cd).kindOf binds fun _ => none) →
      (∀ n c, (cellsFrom (L + 1) (fScope (stAt k)).names []).lookup n = some c → h₁.IsCell c (bindC (envOfC name (fScope (stAt k)) L a cd).kindOf binds (fun _ => none) n) ∧ s.heap.get? c = none ∧ c ≠ L) →
      Ext s.heap h₁ → s.heap.get? L = none → A'.depth = A.depth + 1 → A'.handled = A.handled →
      wpAny (model P w) A' (execs (fBody (stAt k)) (envOfC name (fScope (stAt k)) L a cd)) (fun f s' => Q (match f with | .ret v => v | _ => .none) s') E' (St s h₁ tk))
    (hco : (fScope (stAt k)).isCoroutine = false := by rfl) (hgen : (fScope (stAt k)).isGenerator = false := by rfl) (hk : (fScope (stAt k)).kind = .function := by rfl) :
    wpAny (model P w) A (call (.ref a) args) Q E s := by
  obtain ⟨o, kV, doc, pm, an, cd, ct, ho, hd, hcd⟩ := hfn
  refine wpAny_call ?_
  refine codeAny_call_cells hroom ho hd hlim hcd rfl (hbind kV doc pm an cd ct) rfl (hkind _) (fun s₁ x => ?_) hco hgen hk
  obtain ⟨h₁, tk, rfl, hx⟩ := x.done
  have hfr : s.heap.get? s.heap.objs.size = none := fresh_size (Ext.refl _)
  refine wpAny_mono (h s.heap.objs.size cd h₁ tk _ _ x.toInCall.ns (fun n c hc => ⟨x.cell n c hc, ?_, ?_⟩) hx hfr rfl rfl) (fun f s' hq => hq) (fun _ _ e => e)
  · have := x.above n c (mem_of_lookup hc)
    cases hq : s.heap.get? c with
    | none => rfl
    | some o => exact absurd (Heap.lt_size hq) (Nat.not_lt_of_gt this)
  · exact Nat.ne_of_gt (x.above n c (mem_of_lookup hc))
end
section
variable {w : World} {A : Around} {s : Shared} {hp : Heap} {tk₀ : Nat} {env : Env} {E : Value → Shared → Prop} {Q : Flow → Shared → Prop} {pos px p : Pos} {x : Str} {e e₂ : Expr}
/-- a captured name stored -/
theorem ex_assignX {V : Value → Prop} {c : Addr} {o : Option Value} (hc : env.cells.lookup x = some c) (hv : hp.IsCell c o) (he : Ev w A env hp e V)
    (k : ∀ v h' tk, V v → h'.IsCell c (some v) → KB [c] hp h' → Q .next (St s h' tk))
    (hk : env.scope.kind = .function := by rfl) (hl : env.kindOf x = some .cell := by rfl) (hsw : swapsWith e (some (.Name x px)) pos.line env = pure false := by rfl) :
    wpAny (model P w) A (exec (.Assign [.Name x px] e pos) env) Q E (St s hp tk₀) := by
  refine wpAny_Assign_Name (Co.use he (Ext.refl _) fun v h₁ k₁ hv' e₁ => ?_) hsw
  refine wpAny_storeName_cell (s := St s h₁ k₁) hk hl hc (let ⟨o, a, b⟩ := hv; ⟨o, e₁ _ _ a, b⟩) fun h₂ hn hs => ?_
  exact k v h₂ k₁ hv' hn ((KB.of_ext e₁).trans (KB.of_same (by simp) hs))
theorem IsCell.kb {c : Addr} {o : Option Value} {ws : List Addr} {a b : Heap} (h : a.IsCell c o) (hc : c ∉ ws) (k : KB ws a b) : b.IsCell c o := let ⟨q, x, y⟩ := h; ⟨q, k _ _ hc x, y⟩
theorem IsCell.up {c : Addr} {o : Option Value} {a b : Heap} (h : a.IsCell c o) (k : Ext a b) : b.IsCell c o := let ⟨q, x, y⟩ := h; ⟨q, k _ _ x, y⟩
/-- lists end to end -/
theorem co_addL {h : Heap} {a b : Addr} {vs ws : List Value} (ha : h.IsList a vs.toArray) (hb : h.IsList b ws.toArray) (hsz : vs.length + ws.length ≤ sizeLine) :
    CoH w A (binaryOp .Add (.ref a) (.ref b)) h fun v h' => ∃ D, v = .ref D ∧ h.get? D = none ∧ h'.IsList D (vs ++ ws).toArray := by
  intro s Q E hI hQ
  have ha' : s.heap.IsList a vs.toArray := ha.at fun o q => hI _ o q
  have hb' : s.heap.IsList b ws.toArray := hb.at fun o q => hI _ o q
  obtain ⟨⟨cls, dd, data, sl⟩, ho, hc, n, hd⟩ := id ha'
  obtain ⟨⟨cls2, dd2, data2, sl2⟩, ho2, hc2, n2, hd2⟩ := id hb'
  simp only at hc hd hc2 hd2
  subst hc hd hc2 hd2
  have e : vs.toArray ++ ws.toArray = (vs ++ ws).toArray := by simp
  refine concat_meets ⟨_, ho, rfl⟩ ⟨_, ho2, rfl⟩ noFill_list_add seq_list_add PySem.F.slot_list_add PySem.F.entry_list_add (PySem.F.args_list_add_2 _ _) (list_addW a b vs.toArray ws.toArray n n2 dd dd2 sl sl2 (by simpa using hsz)) ⟨ho, ho2, ?_⟩
  rw [e]
  exact hQ _ _ _ ⟨_, rfl, fresh_size hI, _, Heap.get?_push_size _ rfl, rfl, _, rfl⟩ (Ext.push _ _)
end
end Mine

/-! ### QJ1 -/
open PySem PySem.W PyProof.Rows PySem.Calls
set_option Elab.async false
set_option maxRecDepth 100000
set_option maxHeartbeats 4000000
set_option linter.unusedVariables false
namespace Mine
section
variable {w : World} {A : Around} {s : Shared} {hp h : Heap} {tk₀ : Nat} {env : Env} {E : Value → Shared → Prop} {Q : Flow → Shared → Prop} {pos px p apos : Pos} {x : Str} {e e₂ e₃ : Expr}
/-- xs.append(e) -/
theorem ex_appM {V : Value → Prop} {D : Addr} {its : List Value} {n : Nat} (hx : Ev w A env hp (.Name x px) (IsV (.ref D))) (ho : hp.get? D = some (lstObj its n)) (he : Ev w A env hp e V) (hsz : its.length ≤ sizeLine)
    (k : ∀ v h' tk, V v → h'.get? D = some (lstObj (its ++ [v]) (n + 1)) → KB [D] hp h' → Q .next (St s h' tk))
    (hi : interactive env = false := by rfl) (hb : attributeBase (.Name x px) "append" env (eval (.Name x px) env) = eval (.Name x px) env := by rfl) (hl : (apos.endLine == pos.line) = true := by rfl) (hs : starEach [e] env = [(false, eval e env)] := by rfl) :
    wpAny (model P w) A (exec (.Expr (.Call (.Attribute (.Name x px) "append" apos) [e] [] pos) p) env) Q E (St s hp tk₀) := by
  refine wpAny_Expr ?_ hi rfl
  refine wpAny_Call_method_lateS hb (by rw [hs]; rfl) hl (Co.use hx (Ext.refl _) fun v h₁ k₁ hv₁ e₁ => ?_)
  subst hv₁
  refine ⟨"list", "list.append", PySem.F.plainAttrs_list, slot_list_append, type_append, ⟨_, e₁ _ _ ho, rfl⟩, ?_, callWith_method1 (args_cons (Co.use he e₁ fun v h₂ k₂ hv₂ e₂ => args_nil ?_) (by rw [hs]; rfl)) (by rw [hs]; rfl)⟩
  · rintro b ⟨⟩
    exact ⟨_, e₁ _ _ ho, rfl⟩
  · refine append_at (s := St s h₂ k₂) (D := D) (its := its.toArray) (n := n) ((e₁.trans e₂) _ _ ho) (fun h₃ hs₃ ho₃ => ?_) (by simpa using hsz)
    exact k v h₃ k₂ hv₂ (by rw [ho₃]; simp) ((KB.of_ext (e₁.trans e₂)).trans (KB.of_same (by simp) hs₃))
/-- displays -/
theorem ev_list1 {V : Value → Prop} (he : Ev w A env h e V) (hs : starEach [e] env = [(false, eval e env)] := by rfl) : EvH w A env h (.List [e] pos) fun v h' => ∃ D u, v = .ref D ∧ V u ∧ h.get? D = none ∧ h'.get? D = some (lstObj [u] 0) := by
  intro s Q E hI hQ
  show wpAny _ _ (do standAt pos; newList (← spliced (backTo pos (starEach [e] env)))) _ _ _
  refine wpAny_bind (wpAny_standAt (wpAny_bind (args_cons (he s _ E hI fun u h₁ k₁ hv₁ e₁ => args_nil ?_) (by rw [hs]; rfl))))
  exact newList_co (h := h) (by rw [sizeLine_eq]; simp) (St s h₁ k₁) Q E (hI.trans e₁) fun v h₂ k₂ ⟨D, a, b, c⟩ e₂ => hQ v h₂ k₂ ⟨D, u, a, hv₁, b, c⟩ (e₁.trans e₂)
theorem ev_list2 {V V₂ : Value → Prop} (he : Ev w A env h e V) (he₂ : Ev w A env h e₂ V₂) (hs : starEach [e, e₂] env = [(false, eval e env), (false, eval e₂ env)] := by rfl) (hs₂ : starEach [e₂] env = [(false, eval e₂ env)] := by rfl) :
    EvH w A env h (.List [e, e₂] pos) fun v h' => ∃ D u z, v = .ref D ∧ V u ∧ V₂ z ∧ h.get? D = none ∧ h'.get? D = some (lstObj [u, z] 0) := by
  intro s Q E hI hQ
  show wpAny _ _ (do standAt pos; newList (← spliced (backTo pos (starEach [e, e₂] env)))) _ _ _
  refine wpAny_bind (wpAny_standAt (wpAny_bind (args_cons (he s _ E hI fun u h₁ k₁ hv₁ e₁ => args_cons (he₂ _ _ E (hI.trans e₁) fun z h₂ k₂ hv₂ e₂ => args_nil ?_) (by rw [hs₂]; rfl)) (by rw [hs, hs₂]))))
  exact newList_co (h := h) (by rw [sizeLine_eq]; simp) _ Q E ((hI.trans e₁).trans e₂) fun v h₃ k₃ ⟨D, a, b, c⟩ e₃ => hQ v h₃ k₃ ⟨D, u, z, a, hv₁, hv₂, b, c⟩ ((e₁.trans e₂).trans e₃)
theorem ev_list3 {V V₂ V₃ : Value → Prop} (he : Ev w A env h e V) (he₂ : Ev w A env h e₂ V₂) (he₃ : Ev w A env h e₃ V₃) (hs : starEach [e, e₂, e₃] env = [(false, eval e env), (false, eval e₂ env), (false, eval e₃ env)] := by rfl)
    (hs₂ : starEach [e₂, e₃] env = [(false, eval e₂ env), (false, eval e₃ env)] := by rfl) (hs₃ : starEach [e₃] env = [(false, eval e₃ env)] := by rfl) :
    EvH w A env h (.List [e, e₂, e₃] pos) fun v h' => ∃ D u z y, v = .ref D ∧ V u ∧ V₂ z ∧ V₃ y ∧ h.get? D = none ∧ h'.get? D = some (lstObj [u, z, y] 0) := by
  intro s Q E hI hQ
  show wpAny _ _ (do standAt pos; newList (← spliced (backTo pos (starEach [e, e₂, e₃] env)))) _ _ _
  refine wpAny_bind (wpAny_standAt (wpAny_bind (args_cons (he s _ E hI fun u h₁ k₁ hv₁ e₁ => args_cons (he₂ _ _ E (hI.trans e₁) fun z h₂ k₂ hv₂ e₂ => args_cons (he₃ _ _ E ((hI.trans e₁).trans e₂) fun y h₃ k₃ hv₃ e₃ => args_nil ?_) (by rw [hs₃]; rfl)) (by rw [hs₂, hs₃])) (by rw [hs, hs₂]))))
  exact newList_co (h := h) (by rw [sizeLine_eq]; simp) _ Q E (((hI.trans e₁).trans e₂).trans e₃) fun v h₄ k₄ ⟨D, a, b, c⟩ e₄ => hQ v h₄ k₄ ⟨D, u, z, y, a, hv₁, hv₂, hv₃, b, c⟩ (((e₁.trans e₂).trans e₃).trans e₄)
/-- an item of a list that was just made -/
theorem ev_itemLH {value slice : Expr} {G : List Value → Prop} {k : Int} {V : Value → Prop} (hv : EvH w A env h value fun v h' => ∃ a its, v = .ref a ∧ h'.IsList a its.toArray ∧ G its) (hi : Ev w A env h slice (IsI k)) (h0 : 0 ≤ k) (h1 : k < 2 ^ 62)
    (hx : ∀ its, G its → ∃ u, its[k.toNat]? = some u ∧ V u)
    (hs : ∀ a i u, subscripted slice false (.ref a) (.int i u) = operate [.ref a, .int i u] (getItem (.ref a) (.int i u)) := by intro _ _ _; with_unfolding_all rfl) : Ev w A env h (.Subscript value slice pos) V := by
  intro s Q E hI hQ
  refine Subscript_ (hv s _ E hI fun o h₁ k₁ hv₁ e₁ => ?_)
  obtain ⟨a, its, rfl, hl, hG⟩ := hv₁
  obtain ⟨u, hu, hV⟩ := hx its hG
  refine hi _ _ E (hI.trans e₁) fun y h₂ k₂ hv₂ e₂ => ?_
  obtain ⟨y, rfl⟩ := hv₂
  have hL : (St (St s h₁ k₁) h₂ k₂).heap.IsList a its.toArray := hl.at fun o q => e₂ _ o q
  exact tail_any hL.typeIs slot_list_getitem.lookup (wpAny_getItem_list hL h0 (by omega) (by simpa using hu) (hQ u h₂ _ hV (e₁.trans e₂))) (hs _ _ _)
/-- {k1: v1, k2: v2}.get(key, d) over texts -/
theorem ev_get2 {k1 k2 v1 v2 key : List Nat} {E1 E2 E3 E4 E5 E6 : Expr} {d : List Nat} {dp : Pos} (h1 : Ev w A env h E1 (IsS k1)) (h2 : Ev w A env h E2 (IsS v1)) (h3 : Ev w A env h E3 (IsS k2)) (h4 : Ev w A env h E4 (IsS v2)) (h5 : Ev w A env h E5 (IsS key)) (h6 : Ev w A env h E6 (IsS d))
    (hne : k1 ≠ k2) (hm : ∃ o, h.get? mainGlobals = some o)
    (hb : attributeBase (.Dict [some E1, some E3] [E2, E4] dp) "get" env (eval (.Dict [some E1, some E3] [E2, E4] dp) env) = eval (.Dict [some E1, some E3] [E2, E4] dp) env := by rfl) (hl : (apos.endLine == pos.line) = true := by rfl)
    (hs : starEach [E5, E6] env = [(false, eval E5 env), (false, eval E6 env)] := by rfl) (hs₂ : starEach [E6] env = [(false, eval E6 env)] := by rfl) :
    Ev w A env h (.Call (.Attribute (.Dict [some E1, some E3] [E2, E4] dp) "get" apos) [E5, E6] [] pos) (IsS (if key = k1 then v1 else if key = k2 then v2 else d)) := by
  intro s Q E hI hQ
  refine wpAny_Call_method_lateS hb (by rw [hs]; rfl) hl ?_
  refine wpAny_Dict_pairs (knd := strKind P w) (pairs := [(eval E1 env, do let x ← eval E2 env; standAt dp; pure x), (eval E3 env, do let x ← eval E4 env; standAt dp; pure x)]) rfl (by simp) (by simp) ?_
  have hI0 : Ext h (s.heap.push { cls := .type "dict", data := .dict #[] }) := hI.trans (Ext.push _ _)
  have hd0 : (s.heap.push { cls := .type "dict", data := .dict #[] }).DictOf (strKind P w) s.heap.objs.size [] := Heap.DictOf.new _
  show wpAny _ _ (do
    let kv ← eval E1 env
    let vv ← holding [kv] (do let x ← eval E2 env; standAt dp; pure x)
    return (kv, vv) :: (← holding [kv, vv] (do
      let kv ← eval E3 env
      let vv ← holding [kv] (do let x ← eval E4 env; standAt dp; pure x)
      return (kv, vv) :: (← holding [kv, vv] (pure []))))) _ _ (St s _ s.toks)
  refine wpAny_bind (Co.use h1 hI0 fun a q₁ t₁ ha e₁ => ?_)
  refine wpAny_bind (wpAny_holding (wpAny_bind (Co.use h2 (hI0.trans e₁) fun b q₂ t₂ hb' e₂ => wpAny_bind (wpAny_standAt (wpAny_pure ?_)))))
  refine wpAny_bind (wpAny_holding (wpAny_bind (Co.use h3 ((hI0.trans e₁).trans e₂) fun c q₃ t₃ hc e₃ => ?_)))
  refine wpAny_bind (wpAny_holding (wpAny_bind (Co.use h4 (((hI0.trans e₁).trans e₂).trans e₃) fun g q₄ t₄ hg e₄ => wpAny_bind (wpAny_standAt (wpAny_pure ?_)))))
  refine wpAny_bind (wpAny_holding (wpAny_pure (wpAny_pure (wpAny_pure ?_))))
  obtain ⟨ta, rfl⟩ := ha
  obtain ⟨tb, rfl⟩ := hb'
  obtain ⟨tc, rfl⟩ := hc
  obtain ⟨tg, rfl⟩ := hg
  have e4 : Ext (s.heap.push { cls := .type "dict", data := .dict #[] }) q₄ := ((e₁.trans e₂).trans e₃).trans e₄
  have hd4 : q₄.DictOf (strKind P w) s.heap.objs.size [] := by
    obtain ⟨o, es, ep, ho, r⟩ := hd0
    exact ⟨o, es, ep, e4 _ _ ho, r⟩
  refine ⟨[(S k1, .str (S v1) tb), (S k2, .str (S v2) tg)], ⟨strKind_is _ _ _ _, rfl, strKind_is _ _ _ _, rfl, trivial⟩, hd4, fun q₅ hd5 hs5 => ?_⟩
  have hmer : merged [] [(S k1, Value.str (S v1) tb), (S k2, Value.str (S v2) tg)] = [(S k1, Value.str (S v1) tb), (S k2, Value.str (S v2) tg)] := by
    have : ¬ S k1 = S k2 := fun q => hne (S_inj.mp q)
    simp [merged, stored, this]
  rw [hmer] at hd5
  have hds : (s.heap.objs.size == sysModules) = false := by
    obtain ⟨o, ho⟩ := hm
    have h3 : (3 : Nat) < s.heap.objs.size := Heap.lt_size (hI _ _ ho)
    have : sysModules < s.heap.objs.size := Nat.lt_trans (by decide) h3
    exact beq_eq_false_iff_ne.mpr (Nat.ne_of_gt this)
  have hk5 : ∀ b o, b ≠ s.heap.objs.size → q₄.get? b = some o → q₅.get? b = some o := fun b o hb e => hs5.extBut b o hb e
  have e5 : Ext s.heap q₅ := fun b o e => hk5 b o (Nat.ne_of_lt (Heap.lt_size e)) (e4 _ _ (Ext.push _ _ _ _ e))
  have hT : ∀ {q : Heap}, Ext q₅ q → ∃ o, q.get? s.heap.objs.size = some o ∧ o.cls = .type "dict" ∧ o.dict = none := by
    intro q e
    obtain ⟨o, es, ep, ho, hx, _⟩ := hd5
    exact ⟨o, e _ _ ho, hx.1, hx.2.1⟩
  refine ⟨"dict", "dict.get", PySem.F.plainAttrs_dict, PySem.F.slot_dict_get, PySem.F.type_dict_get, ?_, ?_, ?_⟩
  · obtain ⟨o, a, b, c⟩ := hT (Ext.refl _)
    exact ⟨o, a, b⟩
  · rintro b ⟨⟩
    obtain ⟨o, a, b, c⟩ := hT (Ext.refl _)
    exact ⟨o, a, c⟩
  refine callWith_method1 (args_cons (e := E5) (rest := [E6]) ?_ (by rw [hs, hs₂])) (by rw [hs, hs₂]) (by rw [hs₂]; rfl)
  show wpAny _ _ _ _ _ (St s q₅ _)
  refine Co.use h5 (hI.trans e5) fun a q₆ t₆ ha e₆ => args_cons (Co.use h6 ((hI.trans e5).trans e₆) fun b q₇ t₇ hb' e₇ => args_nil ?_) (by rw [hs₂]; rfl)
  obtain ⟨ta', rfl⟩ := ha
  obtain ⟨tb', rfl⟩ := hb'
  have hd7 : q₇.DictOf (strKind P w) s.heap.objs.size [(S k1, Value.str (S v1) tb), (S k2, Value.str (S v2) tg)] := by
    obtain ⟨o, es, ep, ho, r⟩ := hd5
    exact ⟨o, es, ep, (e₆.trans e₇) _ _ ho, r⟩
  obtain ⟨o7, a7, b7, c7⟩ := hT (e₆.trans e₇)
  refine call_meetsIn (s := St s q₇ t₇) PySem.F.slot_dict_get ⟨o7, a7, b7⟩ PySem.F.entry_dict_get (PySem.F.args_dict_get_3 _ _ _) (meets_dict_get_default (strKind P w) s.heap.objs.size (strKind_is P w (S key) ta') hds _) ⟨_, hd7.mapOf, ?_⟩
  refine hQ _ q₇ _ ?_ ((e5.trans e₆).trans e₇)
  have n1 : (S k1 = S key) ↔ k1 = key := S_inj
  have n2 : (S k2 = S key) ↔ k2 = key := S_inj
  by_cases g1 : k1 = key
  · rw [if_pos g1.symm]
    exact ⟨tb, by simp [valueAt, n1, g1]⟩
  · rw [if_neg (Ne.symm g1)]
    by_cases g2 : k2 = key
    · rw [if_pos g2.symm]
      exact ⟨tg, by simp [valueAt, n1, n2, g1, g2]⟩
    · rw [if_neg (Ne.symm g2)]
      exact ⟨tb', by simp [valueAt, n1, n2, g1, g2]⟩
end
end Mine

/-! ### QR -/
open PySem PySem.W PyProof.Rows PySem.Calls
set_option Elab.async false
set_option maxRecDepth 100000
set_option maxHeartbeats 4000000
set_option linter.unusedVariables false
namespace Mine
section
variable {w : World} {A : Around} {s : Shared} {hp h : Heap} {tk₀ : Nat} {env : Env} {E : Value → Shared → Prop} {Q : Flow → Shared → Prop} {pos px p apos : Pos} {x : Str} {e l r r₂ : Expr}
theorem ev_addL {a : Addr} {vs : List Value} {G : List Value → Prop} (ha : Ev w A env h l (IsV (.ref a))) (hl : h.IsList a vs.toArray) (hb : EvH w A env h r fun v h' => ∃ b ws, v = .ref b ∧ h'.IsList b ws.toArray ∧ G ws) (hsz : ∀ ws, G ws → vs.length + ws.length ≤ sizeLine) :
    EvH w A env h (.BinOp l .Add r pos) fun v h' => ∃ D ws, v = .ref D ∧ h.get? D = none ∧ h'.IsList D (vs ++ ws).toArray ∧ G ws := by
  intro s Q E hI hQ
  refine wpAny_BinOp (ha s _ E hI fun o h₁ k₁ hv₁ e₁ => ?_)
  subst hv₁
  refine hb _ _ E (hI.trans e₁) fun o h₂ k₂ hv₂ e₂ => ?_
  obtain ⟨b, ws, rfl, hw, hG⟩ := hv₂
  refine co_addL (h := h₂) (hl.at fun o q => (hI.trans (e₁.trans e₂)) _ o q) hw (hsz ws hG) _ Q E (Ext.refl _) fun v h₃ k₃ ⟨D, a, b, c⟩ e₃ => ?_
  refine hQ v h₃ k₃ ⟨D, ws, a, ?_, c, hG⟩ ((e₁.trans e₂).trans e₃)
  cases hq : h.get? D with
  | none => rfl
  | some o => have := (hI.trans (e₁.trans e₂)) _ _ hq; rw [b] at this; cases this
theorem ev_ifexpH {t b o : Expr} {c : Bool} {V : Value → Heap → Prop} (ht : Te w A env h t c) (hb : c = true → EvH w A env h b V) (ho : c = false → EvH w A env h o V) : EvH w A env h (.IfExp t b o pos) V := by
  intro s Q E hI hQ
  refine IfExp_ (ht s _ E hI fun d h' tk hd he => ?_)
  subst hd
  cases d with
  | true => exact hb rfl _ _ E (hI.trans he) fun v h'' tk' hv he' => hQ v h'' tk' hv (he.trans he')
  | false => exact ho rfl _ _ E (hI.trans he) fun v h'' tk' hv he' => hQ v h'' tk' hv (he.trans he')
theorem ex_retH {V : Value → Heap → Prop} (he : EvH w A env hp e V) (k : ∀ v h' tk, V v h' → Ext hp h' → Q (.ret v) (St s h' tk)) :
    wpAny (model P w) A (exec (.Return (some e) pos) env) Q E (St s hp tk₀) := wpAny_Return_some (CoH.use he (Ext.refl _) k)
theorem le_single (a b : Nat) : (!decide ([b] < [a])) = decide (a ≤ b) := by
  have : ([b] < [a]) ↔ b < a := by
    rw [List.cons_lt_cons_iff]
    simp
  rw [Bool.eq_iff_iff]; simp [this]
theorem te_chain {a b c : Nat} (ha : Ev w A env h l (IsS [a])) (hb : Ev w A env h r (IsS [b])) (hc : Ev w A env h r₂ (IsS [c])) (hm : lastMarks [.LtE, .LtE] [r, r₂] = false := by rfl) :
    Te w A env h (.Compare l [.LtE, .LtE] [r, r₂] pos) (decide (a ≤ b) && decide (b ≤ c)) := by
  intro s Q E hI hQ
  refine isTrue_chain (ha s _ E hI fun u h₁ k₁ hv₁ e₁ => ?_) hm
  obtain ⟨ta, rfl⟩ := hv₁
  refine test_link (hb _ _ E (hI.trans e₁) fun u h₂ k₂ hv₂ e₂ => ?_)
  obtain ⟨tb, rfl⟩ := hv₂
  refine PySem.P.le_str (wpAny_truthy_bool ?_)
  have e1 : (!decide ((PySem.Str.mk [b].toArray).cps.toList < (PySem.Str.mk [a].toArray).cps.toList)) = decide (a ≤ b) := le_single a b
  rw [e1]
  cases hab : decide (a ≤ b) with
  | false => exact hQ _ _ _ (by rw [hab]; rfl) (e₁.trans e₂)
  | true =>
    show wpAny _ _ (testChain pos _ [CmpOp.LtE] [eval r₂ env]) _ _ _
    refine test_last (hc _ _ E ((hI.trans e₁).trans e₂) fun u h₃ k₃ hv₃ e₃ => ?_)
    obtain ⟨tc, rfl⟩ := hv₃
    refine PySem.P.le_str (wpAny_truthy_bool ?_)
    have e2 : (!decide ((PySem.Str.mk [c].toArray).cps.toList < (PySem.Str.mk [b].toArray).cps.toList)) = decide (b ≤ c) := le_single b c
    rw [e2]
    exact hQ _ _ _ (by rw [hab]; rfl) ((e₁.trans e₂).trans e₃)
end
section
variable {w : World} {A : Around} {h : Heap} {env : Env} {pos : Pos} {x : Str}
theorem tests_te {s : Shared} {E : Value → Shared → Prop} {c : Expr} {b pv : Bool} (ht : Te w A env s.heap c b) (hb : b = pv) :
    wpAny (model P w) A (forIn [c] true fun c r => if r = true then do let ok ← PySem.isTrue c env (eval c env); pure (ForInStep.yield ok) else pure (ForInStep.yield r)) (fun ok s₄ => ok = pv ∧ Keeps s s₄) E s :=
  wpAny_tests_one (ht s _ E (Ext.refl _) fun b' q k hb' he' => ⟨hb'.trans hb, q, k, rfl, he'⟩)
theorem ev_freeS {c : Addr} {a : List Nat} {t : Tok} (hc : env.cells.lookup x = some c) (hv : h.IsCell c (some (.str (S a) t)))
    (hk : env.scope.kind = .function := by rfl) (hl : env.kindOf x = some .free := by rfl) (hd : (x == ("__debug__" : Str)) = false := by rfl) (hn : (x == ("__classdict__" : Str)) = false := by rfl) : Ev w A env h (.Name x pos) (IsS a) :=
  Co.post (ev_free hc hv hk hl hd hn) fun v e => ⟨t, e⟩
theorem ev_freeI {c : Addr} {a : Int} {t : Tok} (hc : env.cells.lookup x = some c) (hv : h.IsCell c (some (.int a t)))
    (hk : env.scope.kind = .function := by rfl) (hl : env.kindOf x = some .free := by rfl) (hd : (x == ("__debug__" : Str)) = false := by rfl) (hn : (x == ("__classdict__" : Str)) = false := by rfl) : Ev w A env h (.Name x pos) (IsI a) :=
  Co.post (ev_free hc hv hk hl hd hn) fun v e => ⟨t, e⟩
theorem ev_cellS {c : Addr} {a : List Nat} {t : Tok} (hc : env.cells.lookup x = some c) (hv : h.IsCell c (some (.str (S a) t)))
    (hk : env.scope.kind = .function := by rfl) (hl : env.kindOf x = some .cell := by rfl) (hd : (x == ("__debug__" : Str)) = false := by rfl) : Ev w A env h (.Name x pos) (IsS a) :=
  Co.post (ev_cell hc hv hk hl hd) fun v e => ⟨t, e⟩
theorem ev_cellI {c : Addr} {a : Int} {t : Tok} (hc : env.cells.lookup x = some c) (hv : h.IsCell c (some (.int a t)))
    (hk : env.scope.kind = .function := by rfl) (hl : env.kindOf x = some .cell := by rfl) (hd : (x == ("__debug__" : Str)) = false := by rfl) : Ev w A env h (.Name x pos) (IsI a) :=
  Co.post (ev_cell hc hv hk hl hd) fun v e => ⟨t, e⟩
end
theorem fr_one {a : Str} {v : Value} {r : List Str} : (fun y => if y = a then some v else none) = fr ((a, some v) :: r.map fun y => (y, none)) := by
  rw [← fr_binds1]
  funext x
  show _ = List.lookup x [(a, v)]
  rw [List.lookup_cons]
  by_cases h : x = a
  · subst h; simp
  · have : (x == a) = false := by simpa using h
    simp [h, this]
/-- the frame of _law_rows -/
noncomputable abbrev rowsFr (row : Value) (rows cut mark : Option Value) : FrL := [(Str.ofString "row", some row), (Str.ofString "rows", rows), (Str.ofString "cut", cut), (Str.ofString "mark", mark)]
noncomputable def figL : List Nat := [48, 49, 50, 51, 52, 53, 54, 55, 56, 57, 65, 66, 67, 68, 69, 70]
theorem fig_at : ∀ d, d < 16 → figL[d]? = some (hexC d) := by decide
/-- the test of the cut -/
noncomputable def cutP (wd : Nat) (r : List Nat) (v : Value) : Bool := match v with | .int i _ => decide (i = (wd : Int) - 1) || decide (r[i.toNat]? = some 61) | _ => false
theorem len3 {α : Type} {l : List α} (h : l.length = 3) : ∃ a b c, l = [a, b, c] := by
  cases l with
  | nil => cases h
  | cons a l =>
    cases l with
    | nil => cases h
    | cons b l =>
      cases l with
      | nil => cases h
      | cons c l =>
        cases l with
        | nil => exact ⟨a, b, c, rfl⟩
        | cons d l => exact absurd h (by simp)
theorem cut_first {wd : Nat} {r : List Nat} {vs ys : List Value} (hw : 4 ≤ wd) (hl : vs.length = 3) (hv : ∀ (j : Nat) (v : Value), vs[j]? = some v → j < 3 ∧ ∃ t, v = Value.int ((wd : Int) - 3 + j) t)
    (hp : Paired (fun v y : Value => y = v) (vs.filter (cutP wd r)) ys) : ∃ t, ys[0]? = some (.int (cutAt wd r) t) := by
  obtain ⟨a, b, c, rfl⟩ := len3 hl
  obtain ⟨-, ta, rfl⟩ := hv 0 a rfl
  obtain ⟨-, tb, rfl⟩ := hv 1 b rfl
  obtain ⟨-, tc, rfl⟩ := hv 2 c rfl
  have e0 : ((wd : Int) - 3 + ((0 : Nat) : Int)) = ((wd - 3 : Nat) : Int) := by omega
  have e1 : ((wd : Int) - 3 + ((1 : Nat) : Int)) = ((wd - 2 : Nat) : Int) := by omega
  have e2 : ((wd : Int) - 3 + ((2 : Nat) : Int)) = ((wd - 1 : Nat) : Int) := by omega
  rw [e0, e1, e2] at hp
  have c0 : cutP wd r (.int ((wd - 3 : Nat) : Int) ta) = decide (r[wd - 3]? = some 61) := by
    have : ¬ (((wd - 3 : Nat) : Int) = (wd : Int) - 1) := by omega
    simp [cutP, this]
  have c1 : cutP wd r (.int ((wd - 2 : Nat) : Int) tb) = decide (r[wd - 2]? = some 61) := by
    have : ¬ (((wd - 2 : Nat) : Int) = (wd : Int) - 1) := by omega
    simp [cutP, this]
  have c2 : cutP wd r (.int ((wd - 1 : Nat) : Int) tc) = true := by
    have : (((wd - 1 : Nat) : Int) = (wd : Int) - 1) := by omega
    simp [cutP, this]
  rw [List.filter_cons, List.filter_cons, List.filter_cons, c0, c1, c2] at hp
  unfold cutAt
  by_cases h0 : r[wd - 3]? = some 61
  · rw [if_pos h0]
    rw [if_pos (by simpa using h0)] at hp
    cases hp with
    | cons e _ => subst e; exact ⟨ta, rfl⟩
  · rw [if_neg h0]
    rw [if_neg (by simpa using h0)] at hp
    by_cases h1 : r[wd - 2]? = some 61
    · rw [if_pos h1]
      rw [if_pos (by simpa using h1)] at hp
      cases hp with
      | cons e _ => subst e; exact ⟨tb, rfl⟩
    · rw [if_neg h1]
      rw [if_neg (by simpa using h1)] at hp
      simp only [if_true] at hp
      cases hp with
      | cons e _ => subst e; exact ⟨tc, rfl⟩
theorem mark_eq (r : List Nat) : (if sl r (some (-1)) none = [32] then [61, 50, 48] else if sl r (some (-1)) none = [9] then [61, 48, 57] else []) = markOf r := by
  have hs : sl r (some (-1)) none = r.drop (r.length - 1) := by
    unfold sl
    have : clipN r.length (-1) = r.length - 1 := by unfold clipN; omega
    simp [this]
  rw [hs]
  rcases List.eq_nil_or_concat r with rfl | ⟨q, c, rfl⟩
  · rfl
  · have : (q.concat c).drop ((q.concat c).length - 1) = [c] := by simp
    rw [this]
    unfold markOf
    rw [show (q.concat c).getLast? = some c by simp]
    by_cases h1 : c = 32
    · subst h1; rfl
    · by_cases h2 : c = 9
      · subst h2; rfl
      · simp [h1, h2]
theorem sl_to {a : List Nat} {i : Nat} {x : Int} (hx : x = i) (h : i ≤ a.length) : sl a none (some x) = a.take i := by
  subst hx
  unfold sl
  have : clipN a.length (i : Int) = i := by unfold clipN; omega
  simp [this]
theorem sl_last {a : List Nat} (h : a ≠ []) : sl a none (some (-1)) = a.dropLast := by
  have hl : 0 < a.length := List.length_pos_iff.mpr h
  unfold sl
  have : clipN a.length (-1) = a.length - 1 := by unfold clipN; omega
  simp [this, List.dropLast_eq_take]
theorem strs_cat {vs ws : List Value} {xs ys : List (List Nat)} (hv : StrsAre vs (xs.map S)) (hw : StrsAre ws (ys.map S)) : StrsAre (vs ++ ws) ((xs ++ ys).map S) := by
  induction xs generalizing vs with
  | nil => cases hv; exact hw
  | cons x r ih =>
    rw [List.map_cons] at hv
    cases hv with
    | cons _ t hr => exact .cons _ _ (ih hr)
section
variable {w : World} {A : Around} {h : Heap} {mg mb : Str → Option Value}
theorem rows_spec {a : Addr} {row : List Nat} {wd : Nat} {t tw : Tok} (hL : Lib mg mb h) (hf : IsFn h a 26 "_law_rows" .none) (hr : A.depth + 20 < recursionLimit) (hh : A.handled = none) (hw : 4 ≤ wd) (hw2 : wd ≤ 1000)
    (hrow : ∀ c ∈ row, c < 256) (hsz : (row.flatMap tr).length ≤ 100000) (hsz2 : row.length ≤ 100000) (hsz3 : (rowsT wd (row.flatMap tr)).length ≤ 1000000) :
    CoH w A (call (.ref a) [.str (S row) t, .int wd tw]) h fun v h' => ∃ D, v = .ref D ∧ h.get? D = none ∧ IsStrL h' D (rowsT wd (row.flatMap tr)) := by
  have hlim : sizeLine = 16777216 := sizeLine_eq
  intro s Q E hI hQ
  have hL' := hL.keeps hI
  refine fn_callC (binds := [("row", .str (S row) t), ("width", .int wd tw)]) (by omega) hL'.lim (hf.keeps hI) (fun _ _ _ _ _ _ => rfl) (kindsX rfl) ?_
  intro L cd h₁ tk₁ A' E' hns hcells hx hLn hd hh'
  have hns' : h₁.Ns L (fr (rowsFr (.str (S row) t) none none none)) := by
    rw [show rowsFr (.str (S row) t) none none none = (Str.ofString "row", some (Value.str (S row) t)) :: [Str.ofString "rows", Str.ofString "cut", Str.ofString "mark"].map fun y => (y, none) from rfl, ← fr_one]
    exact hns
  have F : At s.heap L (rowsFr (.str (S row) t) none none none) h₁ := ⟨hns', hx, hLn⟩
  obtain ⟨hcW, hW0, hWL⟩ := hcells "width" (L + 1) rfl
  obtain ⟨hcF, hF0, hFL⟩ := hcells "figures" (L + 2) rfl
  obtain ⟨hcR, hR0, hRL⟩ := hcells "rest" (L + 3) rfl
  have hcW' : h₁.IsCell (L + 1) (some (.int wd tw)) := hcW
  have hL1 := hL'.keeps hx
  have hh2 : A'.handled = none := by rw [hh']; exact hh
  have w1 : ∀ {c : Addr}, s.heap.get? c = none → ∀ b ∈ [c], s.heap.get? b = none := fun hc b hb => by rw [List.mem_singleton.mp hb]; exact hc
  have nin : ∀ {a b : Addr}, a ≠ b → a ∉ [b] := fun hab q => hab (List.mem_singleton.mp q)
  have n12 : (L + 1 : Nat) ≠ L + 2 := by omega
  have n13 : (L + 1 : Nat) ≠ L + 3 := by omega
  have n23 : (L + 2 : Nat) ≠ L + 3 := by omega
  conv => arg 3; arg 1; whnf
  -- figures = '0123456789ABCDEF'
  refine wpAny_execs_cons (ex_assignX (c := L + 2) rfl hcF (ev_str (a := figL)) fun v h₂ k₂ hv hcF2 kb2 => ?_)
  obtain ⟨t2, rfl⟩ := hv
  have F2 := F.kb (nin (Ne.symm hFL)) (w1 hF0) kb2
  have hcW2 := IsCell.kb hcW' (nin n12) kb2
  have hcR2 := IsCell.kb hcR (nin (Ne.symm n23)) kb2
  -- rest = ''.join(..)
  let T : List Nat := row.flatMap tr
  refine wpAny_execs_cons (ex_assignX (c := L + 3) (V := IsS T) rfl hcR2 (ev_meth1H PySem.F.slot_str_join PySem.F.type_str_join (ev_str (a := [])) (ev_compS0 (xs := row.map fun c => [c]) (fun y => tr (y.headD 0)) (src_signs hh2 (ev_localS (a := row) F2.ns rfl)) (by rw [List.length_map]; omega) ?_) ?_) fun v h₃ k₃ hv hcR3 kb3 => ?_)
  · intro C h' m y t he hn hm hy
    obtain ⟨c, hc, rfl⟩ := List.mem_map.mp hy
    have hc256 := hrow c hc
    have hLc := hL'.keeps (F2.ext.trans he)
    have hfig : h'.IsCell (L + 2) (some (.str (S figL) t2)) := IsCell.up hcF2 he
    refine ev_ifexp (te_and (te_neS (ev_localMS (a := [c]) (m := m) hn hm) (ev_str (a := [61]))) fun _ => te_or (te_chain (ev_str (a := [32])) (ev_localMS (a := [c]) (m := m) hn hm) (ev_str (a := [126]))) fun _ => te_eqS (ev_localMS (a := [c]) (m := m) hn hm) (ev_str (a := [9]))) (fun hq => ?_) (fun hq => ?_)
    · have : tr ([c].headD 0) = [c] := by
        show tr c = [c]
        unfold tr
        rw [if_pos]
        simpa using hq
      rw [this]
      exact (ev_localMS (a := [c]) (m := m) hn hm)
    · have : tr ([c].headD 0) = [61] ++ [hexC (c / 16)] ++ [hexC (c % 16)] := by
        show tr c = _
        unfold tr
        rw [if_neg]
        · rfl
        · intro q
          rw [Bool.eq_false_iff] at hq
          exact hq (by simpa using q)
      rw [this]
      have i1 : ((c : Int).fdiv 16) = ((c / 16 : Nat) : Int) := by
        rw [Int.fdiv_eq_ediv_of_nonneg _ (by omega)]; omega
      have i2 : ((c : Int).fmod 16) = ((c % 16 : Nat) : Int) := by
        rw [Int.fmod_eq_emod_of_nonneg _ (by omega)]; omega
      refine add_str (add_str (ev_str (a := [61])) (ev_item (k := c / 16) (ev_cellS (a := figL) (c := L + 2) rfl hfig) (div_i (ev_ord (ev_bi hLc (by decide) boot_ord) (ev_localMS (a := [c]) (m := m) hn hm)) ev_int (by decide) (PyProof.noPylong_of_log2 (by decide))) (.inl i1) (fig_at _ (by omega)) (by decide)) (by rw [hlim]; simp))
        (ev_item (k := c % 16) (ev_cellS (a := figL) (c := L + 2) rfl hfig) (mod_i (ev_ord (ev_bi hLc (by decide) boot_ord) (ev_localMS (a := [c]) (m := m) hn hm)) ev_int (by decide)) (.inl i2) (fig_at _ (by omega)) (by decide)) (by rw [hlim]; simp)
  · rintro t v h' ⟨D, rfl, hD, hl⟩ e
    have hmm : (row.map fun c => [c]).map (fun y => tr (y.headD 0)) = row.map tr := by rw [List.map_map]; rfl
    rw [hmm] at hl
    refine Co.post (co_join (sep := []) hl ?_) ?_
    · have h1 : ((row.map tr).map (·.length)).sum = T.length := by
        show _ = (row.flatMap tr).length
        rw [List.length_flatMap, List.map_map]; rfl
      have h2 : T.length ≤ 100000 := hsz
      rw [h1, List.length_nil, Nat.mul_zero]
      omega
    · rw [joinL_nil]
      intro v hv
      rw [← List.flatMap_def] at hv
      exact hv
  obtain ⟨t3, rfl⟩ := hv
  have F3 := F2.kb (nin (Ne.symm hRL)) (w1 hR0) kb3
  have hcW3 := IsCell.kb hcW2 (nin n13) kb3
  have hT : T.length ≤ 100000 := hsz
  have hT3 : (rowsT wd T).length ≤ 1000000 := hsz3
  -- rows = []
  refine wpAny_execs_cons (ex_assignH F3 ev_list0 fun v h₃' h₄ k₄ hv e3' F4 kb4 => ?_)
  obtain ⟨D, rfl, hD3, hD3'⟩ := hv
  have hDL : D ≠ L := F3.ne hD3
  have hD0 : s.heap.get? D = none := by
    cases hq : s.heap.get? D with
    | none => rfl
    | some o => rw [F3.ext _ _ hq] at hD3; cases hD3
  have hDW : D ≠ L + 1 := fun e => by obtain ⟨o, ho, _⟩ := hcW3; rw [e, ho] at hD3; cases hD3
  have hDR : D ≠ L + 3 := fun e => by obtain ⟨o, ho, _⟩ := hcR3; rw [e, ho] at hD3; cases hD3
  have hD4 := kb4 D _ (nin hDL) hD3'
  have hcW4 := IsCell.kb (IsCell.up hcW3 e3') (nin hWL) kb4
  have hcR4 := IsCell.kb (IsCell.up hcR3 e3') (nin hRL) kb4
  -- the while
  refine wpAny_execs_cons (ex_while (fun m q => ∃ (r : List Nat) (ys : List (List Nat)) (vs : List Value) (n : Nat) (tr' : Tok) (o : Option Value), m = r.length ∧ r.length ≤ T.length ∧
      At s.heap L (rowsFr (.str (S row) t) (some (.ref D)) o none) q ∧ q.IsCell (L + 1) (some (.int wd tw)) ∧ q.IsCell (L + 3) (some (.str (S r) tr')) ∧ q.get? D = some (lstObj vs n) ∧ StrsAre vs (ys.map S) ∧ ys ++ rowsT wd r = rowsT wd T) T.length ?_ ?_)
  · exact ⟨T, [], [], 0, t3, none, rfl, Nat.le_refl _, F4, hcW4, hcR4, hD4, .nil, rfl⟩
  · rintro m q E₃ ⟨r, ys, vs, n, tr', o, rfl, hrT, G, cW, cR, gD, hvs, hinv⟩
    refine ⟨_, te_gtI (ev_len (ev_bi (hL'.keeps G.ext) (by decide) boot_len) (ev_cellS (a := r) (c := L + 3) rfl cR) (by omega)) (ev_cellI (a := wd) (c := L + 1) rfl cW), ?_, ?_⟩
    · intro hlt h₅ k₅ e5
      have hlt' : wd < r.length := by simpa using hlt
      rw [rowsT_long hlt' hw] at hinv
      have hcb := cutAt_bounds (wd := wd) (rest := r) hw
      generalize hcut : cutAt wd r = ct at *
      have G5 := G.up e5
      have cW5 := IsCell.up cW e5
      have cR5 := IsCell.up cR e5
      -- cut = [..][0]
      refine wpAny_execs_cons (ex_assign G5 (V := IsI ct) (ev_itemLH (G := fun its => ∃ t, its[0]? = some (.int ct t)) (CoH.post (ev_comp (N := 3) (Pv := fun j v => j < 3 ∧ ∃ t, v = Value.int ((wd : Int) - 3 + j) t) (cutP wd r) (fun v y => y = v)
          (src_list (G := fun its => ∃ t1 t2 t3, its = [.int ((wd : Int) - 3) t1, .int ((wd : Int) - 2) t2, .int ((wd : Int) - 1) t3]) hh2 (CoH.post (ev_list3 (sub_i (ev_cellI (a := wd) (c := L + 1) rfl cW5) ev_int) (sub_i (ev_cellI (a := wd) (c := L + 1) rfl cW5) ev_int) (sub_i (ev_cellI (a := wd) (c := L + 1) rfl cW5) ev_int)) ?_) ?_ ?_) (by rw [hlim]; decide) ?_ ?_) ?_) ev_int (by decide) (by decide) ?_) fun v h₆ k₆ hv F6 kb6 => ?_)
      · rintro v h' ⟨X, u, z, y, rfl, ⟨t1, rfl⟩, ⟨t2, rfl⟩, ⟨t3, rfl⟩, _, hX⟩
        exact ⟨X, _, rfl, ⟨_, hX, rfl, _, rfl⟩, t1, t2, t3, rfl⟩
      · rintro its ⟨t1, t2, t3, rfl⟩; rfl
      · rintro its ⟨t1, t2, t3, rfl⟩ i v hv
        match i with
        | 0 => cases hv; exact ⟨by decide, t1, by congr 1; omega⟩
        | 1 => cases hv; exact ⟨by decide, t2, by congr 1; omega⟩
        | 2 => cases hv; exact ⟨by decide, t3, by congr 1; omega⟩
        | i + 3 => simp at hv
      · rintro C h' m i v E' s' he rfl hn hm ⟨hi3, tv, rfl⟩
        obtain ⟨c, hc⟩ : ∃ c, r[wd - 3 + i]? = some c := ⟨r[wd - 3 + i]'(by omega), by simp⟩
        refine tests_te (te_or (te_eqI (ev_localMI hn hm) (sub_i (ev_cellI (a := wd) (c := L + 1) rfl (IsCell.up cW5 he)) ev_int)) fun _ => te_eqS (ev_item (k := wd - 3 + i) (ev_cellS (a := r) (c := L + 3) rfl (IsCell.up cR5 he)) (ev_localMI hn hm) (.inl (by omega)) hc (by omega)) (ev_str (a := [61]))) ?_
        have e1 : ((wd : Int) - 3 + i).toNat = wd - 3 + i := by omega
        simp [cutP, e1, hc]
      · rintro C h' m i v he hn hm ⟨hi3, tv, rfl⟩ hp
        exact ev_localM hn hm
      · rintro v h' ⟨X, zs, vs', rfl, _, hpl, hlen, hP, hF⟩
        refine ⟨X, zs.toList, rfl, by rw [show zs.toList.toArray = zs by simp]; exact hpl.isList, ?_⟩
        have := cut_first hw hlen hP hF
        rwa [hcut] at this
      · rintro its ⟨tt, ht⟩
        exact ⟨_, ht, tt, rfl⟩
      obtain ⟨t6, rfl⟩ := hv
      have cW6 := IsCell.kb cW5 (nin hWL) kb6
      have cR6 := IsCell.kb cR5 (nin hRL) kb6
      have gD6 := kb6 D _ (nin hDL) (e5 _ _ gD)
      have hysl : ys.length ≤ 1000000 := by
        have := congrArg List.length hinv
        rw [List.length_append] at this
        omega
      have hvl : vs.length = ys.length := by rw [hvs.len_eq]; simp
      -- rows.append(rest[:cut] + '=')
      refine wpAny_execs_cons (ex_appM (its := vs) (n := n) (ev_local (v := .ref D) F6.ns rfl) gD6 (add_str (b := [61]) (ev_slice (ev_cellS (a := r) (c := L + 3) rfl cR6) pt_none (pt_some (ev_localI (i := (ct : Int)) F6.ns rfl)) (by omega)) (ev_str (a := [61])) (by have := sl_le r none (some (ct : Int)); simp; omega)) (by omega) fun v h₇ k₇ hv gD7 kb7 => ?_)
      obtain ⟨t7, rfl⟩ := hv
      have F7 := F6.app hDL hD0 kb7
      have cW7 := IsCell.kb cW6 (nin (Ne.symm hDW)) kb7
      have cR7 := IsCell.kb cR6 (nin (Ne.symm hDR)) kb7
      -- rest = rest[cut:]
      refine wpAny_execs_cons (ex_assignX (c := L + 3) rfl cR7 (ev_slice (ev_cellS (a := r) (c := L + 3) rfl cR7) (pt_some (ev_localI (i := (ct : Int)) F7.ns rfl)) pt_none (by omega)) fun v h₈ k₈ hv cR8 kb8 => wpAny_execs_nil (.inl ⟨.inl rfl, h₈, k₈, (r.drop ct).length, rfl, by rw [List.length_drop]; omega, ?_⟩))
      obtain ⟨t8, rfl⟩ := hv
      rw [sl_to rfl (by omega)] at gD7
      rw [sl_from rfl (by omega)] at cR8
      refine ⟨r.drop ct, ys ++ [r.take ct ++ [61]], vs ++ [.str (S (r.take ct ++ [61])) t7], n + 1, t8, some (.int ct t6), rfl, by rw [List.length_drop]; omega, ?_, IsCell.kb cW7 (nin n13) kb8, cR8, kb8 D _ (nin hDR) gD7, ?_, ?_⟩
      · exact F7.kb (nin (Ne.symm hRL)) (w1 hR0) kb8
      · rw [List.map_append]; exact kct_snoc hvs
      · rw [List.append_assoc]; exact hinv
    · intro hge h₅ k₅ e5
      have hge' : ¬ wd < r.length := by simpa using hge
      rw [rowsT_short hge'] at hinv
      have G5 := G.up e5
      have cW5 := IsCell.up cW e5
      have cR5 := IsCell.up cR e5
      have gD5 := e5 _ _ gD
      -- mark = {..}.get(rest[-1:], '')
      refine wpAny_execs_cons (ex_assign G5 (ev_get2 (ev_str (a := [32])) (ev_str (a := [61, 50, 48])) (ev_str (a := [9])) (ev_str (a := [61, 48, 57])) (ev_slice (ev_cellS (a := r) (c := L + 3) rfl cR5) (pt_some (ev_neg ev_int)) pt_none (by omega)) (ev_str (a := [])) (by decide) (let ⟨o, _, _, q, _⟩ := (hL'.keeps G5.ext).g; ⟨o, q⟩)) fun v h₆ k₆ hv F6 kb6 => ?_)
      rw [mark_eq] at hv
      obtain ⟨t6, rfl⟩ := hv
      have cW6 := IsCell.kb cW5 (nin hWL) kb6
      have cR6 := IsCell.kb cR5 (nin hRL) kb6
      have gD6 := kb6 D _ (nin hDL) gD5
      have hysl : ys.length ≤ 1000000 := by
        have := congrArg List.length hinv
        rw [List.length_append] at this
        omega
      have hvl : vs.length = ys.length := by rw [hvs.len_eq]; simp
      have fin : ∀ {zs : List (List Nat)} {h₇ : Heap} {e₂ p p'}, zs.length ≤ 2 → tailRows wd r = zs → Ext h₆ h₇ →
          (EvH w A' (envOfC "_law_rows" (fScope (stAt 26)) L a cd) h₇ e₂ fun v h' => ∃ X ws, v = .ref X ∧ h'.IsList X ws.toArray ∧ StrsAre ws (zs.map S)) →
          EvH w A' (envOfC "_law_rows" (fScope (stAt 26)) L a cd) h₇ (.BinOp (.Name (Str.ofString "rows") p) .Add e₂ p') fun v h' => ∃ X, v = .ref X ∧ h.get? X = none ∧ IsStrL h' X (rowsT wd T) := by
        intro zs h₇ e₂ p p' hz ht e7 hev
        refine CoH.post (ev_addL (vs := vs) (G := fun ws => StrsAre ws (zs.map S)) (ev_local (v := .ref D) (F6.up e7).ns rfl) ⟨_, e7 _ _ gD6, rfl, _, rfl⟩ hev ?_) ?_
        · intro ws hws
          rw [hws.len_eq, hvl]; simp; omega
        · rintro v h' ⟨X, ws, rfl, hX, hl, hG⟩
          refine ⟨X, rfl, ?_, vs ++ ws, hl, ?_⟩
          · cases hq : h.get? X with
            | none => rfl
            | some o => rw [((hI.trans F6.ext).trans e7) _ _ hq] at hX; cases hX
          · rw [← hinv, ht]
            exact strs_cat hvs hG
      have one : ∀ {e₂ p} {z : List Nat} {h₇ : Heap}, Ev w A' (envOfC "_law_rows" (fScope (stAt 26)) L a cd) h₇ e₂ (IsS z) → starEach [e₂] (envOfC "_law_rows" (fScope (stAt 26)) L a cd) = [(false, eval e₂ (envOfC "_law_rows" (fScope (stAt 26)) L a cd))] →
          EvH w A' (envOfC "_law_rows" (fScope (stAt 26)) L a cd) h₇ (.List [e₂] p) fun v h' => ∃ X ws, v = .ref X ∧ h'.IsList X ws.toArray ∧ StrsAre ws ([z].map S) := by
        intro e₂ p z h₇ he hs
        refine CoH.post (ev_list1 he hs) ?_
        rintro v h' ⟨X, u, rfl, ⟨tz, rfl⟩, _, hX⟩
        exact ⟨X, _, rfl, ⟨_, hX, rfl, _, rfl⟩, .cons _ _ .nil⟩
      have two : ∀ {e₂ e₃ p} {z y : List Nat} {h₇ : Heap}, Ev w A' (envOfC "_law_rows" (fScope (stAt 26)) L a cd) h₇ e₂ (IsS z) → Ev w A' (envOfC "_law_rows" (fScope (stAt 26)) L a cd) h₇ e₃ (IsS y) →
          starEach [e₂, e₃] (envOfC "_law_rows" (fScope (stAt 26)) L a cd) = [(false, eval e₂ (envOfC "_law_rows" (fScope (stAt 26)) L a cd)), (false, eval e₃ (envOfC "_law_rows" (fScope (stAt 26)) L a cd))] →
          starEach [e₃] (envOfC "_law_rows" (fScope (stAt 26)) L a cd) = [(false, eval e₃ (envOfC "_law_rows" (fScope (stAt 26)) L a cd))] →
          EvH w A' (envOfC "_law_rows" (fScope (stAt 26)) L a cd) h₇ (.List [e₂, e₃] p) fun v h' => ∃ X ws, v = .ref X ∧ h'.IsList X ws.toArray ∧ StrsAre ws ([z, y].map S) := by
        intro e₂ e₃ p z y h₇ he he' hs hs'
        refine CoH.post (ev_list2 he he' hs hs') ?_
        rintro v h' ⟨X, u, q, rfl, ⟨tz, rfl⟩, ⟨ty, rfl⟩, _, hX⟩
        exact ⟨X, _, rfl, ⟨_, hX, rfl, _, rfl⟩, .cons _ _ (.cons _ _ .nil)⟩
      have hml : (markOf r).length ≤ 3 := by unfold markOf; split <;> decide
      refine wpAny_execs_cons (ex_if (te_eqS (ev_localS (a := markOf r) F6.ns rfl) (ev_str (a := []))) fun h₇ k₇ e7 => ?_)
      by_cases hm0 : markOf r = []
      · rw [if_pos (by simpa using hm0)]
        refine wpAny_execs_cons (ex_retH (fin (zs := [r]) (by simp) (by unfold tailRows; rw [if_pos hm0]) e7 (one (ev_cellS (a := r) (c := L + 3) rfl (IsCell.up cR6 e7)) rfl)) fun v h₈ k₈ hv e8 => hQ v h₈ k₈ hv ((F6.ext.trans e7).trans e8))
      rw [if_neg (by simpa using hm0)]
      have hrne : r ≠ [] := fun e => hm0 (by rw [e]; rfl)
      refine wpAny_execs_nil (wpAny_execs_cons (ex_if (te_leI (ev_len (ev_bi (hL'.keeps (F6.ext.trans e7)) (by decide) boot_len) (ev_cellS (a := r) (c := L + 3) rfl (IsCell.up cR6 e7)) (by omega)) (sub_i (ev_cellI (a := wd) (c := L + 1) rfl (IsCell.up cW6 e7)) ev_int)) fun h₈ k₈ e8 => ?_))
      have e78 := e7.trans e8
      by_cases hm1 : r.length ≤ wd - 2
      · rw [if_pos (by simp; omega)]
        refine wpAny_execs_cons (ex_retH (fin (zs := [r.dropLast ++ markOf r]) (by simp) (by unfold tailRows; rw [if_neg hm0, if_pos hm1]) e78 (one (add_str (by
            rw [← sl_last hrne]
            exact ev_slice (ev_cellS (a := r) (c := L + 3) rfl (IsCell.up cR6 e78)) pt_none (pt_some (ev_neg ev_int)) (by omega)) (ev_localS (a := markOf r) (F6.up e78).ns rfl) (by simp; omega)) rfl)) fun v h₉ k₉ hv e9 => hQ v h₉ k₉ hv ((F6.ext.trans e78).trans e9))
      rw [if_neg (by simp; omega)]
      refine wpAny_execs_nil (wpAny_execs_cons (ex_retH (fin (zs := tailRows wd r) ?_ rfl e78 (ev_ifexpH (te_eqI (ev_len (ev_bi (hL'.keeps (F6.ext.trans e78)) (by decide) boot_len) (ev_cellS (a := r) (c := L + 3) rfl (IsCell.up cR6 e78)) (by omega)) (sub_i (ev_cellI (a := wd) (c := L + 1) rfl (IsCell.up cW6 e78)) ev_int)) ?_ ?_)) fun v h₉ k₉ hv e9 => hQ v h₉ k₉ hv ((F6.ext.trans e78).trans e9)))
      · unfold tailRows
        repeat' split
        all_goals simp
      · intro hq
        have hq' : r.length = wd - 1 := by simp at hq; omega
        have : tailRows wd r = [r ++ [61], []] := by unfold tailRows; rw [if_neg hm0, if_neg hm1, if_pos hq']
        rw [this]
        exact two (add_str (ev_cellS (a := r) (c := L + 3) rfl (IsCell.up cR6 e78)) (ev_str (a := [61])) (by simp; omega)) (ev_str (a := [])) rfl rfl
      · intro hq
        have hq' : ¬ r.length = wd - 1 := by simp at hq; omega
        have : tailRows wd r = [r.dropLast ++ [61], markOf r] := by unfold tailRows; rw [if_neg hm0, if_neg hm1, if_neg hq']
        rw [this]
        refine two (add_str ?_ (ev_str (a := [61])) (by simp; omega)) (ev_localS (a := markOf r) (F6.up e78).ns rfl) rfl rfl
        rw [← sl_last hrne]
        exact ev_slice (ev_cellS (a := r) (c := L + 3) rfl (IsCell.up cR6 e78)) pt_none (pt_some (ev_neg ev_int)) (by omega)
end
end Mine

/-! ### QK -/
open PySem PySem.W PyProof.Rows PySem.Calls
set_option Elab.async false
set_option maxRecDepth 100000
set_option maxHeartbeats 4000000
set_option linter.unusedVariables false
namespace Mine
section
variable {w : World} {A : Around} {s : Shared} {hp h h₀ : Heap} {tk₀ : Nat} {env : Env} {E : Value → Shared → Prop} {Q : Flow → Shared → Prop} {pos px p : Pos} {x : Str} {e : Expr} {l : FrL}
theorem co_iter {ax : Addr} {its : Array Value} (hl : h.IsList ax its) : CoH w A (call (.builtin "iter") [.ref ax]) h fun v h' => ∃ I, v = .ref I ∧ h.get? I = none ∧ h'.IsListIter I ax 0 := by
  intro s Q E hI hQ
  refine call_function_entry (by decide +kernel) (by decide +kernel) kdk_entry_iter (kdk_args_iter _) ?_
  unfold Builtin.«iter»
  refine wpAny_bind (m := someArgs "iter" 1 2 _) (wpAny_of_eq (a := [Value.ref ax]) (by first | rfl | kernel_rfl!) ?_)
  show wpAny _ _ (pyIter (.ref ax) >>= _) _ _ _
  refine wpAny_bind (wpAny_pyIter_list (hl.at fun o q => hI _ o q) ?_)
  exact wpAny_pure ⟨_, rfl, hQ _ _ s.toks ⟨_, rfl, fresh_size hI, _, Heap.get?_push_size _ rfl, rfl, rfl⟩ (Ext.push _ _)⟩
theorem co_next {I ax : Addr} {i : Nat} {its : Array Value} {v : Value} {Q : Value → Shared → Prop} (hi : s.heap.IsListIter I ax i) (hl : s.heap.IsList ax its) (hx : its[i]? = some v)
    (k : ∀ h', h'.IsListIter I ax (i + 1) → Heap.SameBut I s.heap h' → Q v { s with heap := h' }) : wpAny (model P w) A (call (.builtin "next") [.ref I]) Q E s := by
  refine call_function_entry (by decide +kernel) (by decide +kernel) kdk_entry_next (kdk_args_next _) ?_
  unfold Builtin.«next»
  refine wpAny_bind (m := someArgs "next" 1 2 _) (wpAny_of_eq (a := [Value.ref I]) (by first | rfl | kernel_rfl!) ?_)
  dsimp only
  refine wpAny_bind (wpAny_specialOf (name := Str.ofString "__next__") hi.typeIs slot_listiter_next.lookup ?_)
  refine wpAny_ite_split (fun hab => absurd hab (by decide)) (fun _ => ?_)
  obtain ⟨o, ho, hc, hd⟩ := id hi
  obtain ⟨ol, hol, _, nl, hdl⟩ := hl
  refine wpAny_bind (wpAny_callSpecial?_slot (name := Str.ofString "__next__") hi.typeIs slot_listiter_next
    (wpAny_call_entry slot_listiter_next hi.typeIs entry_listiter_next ?_ (args_listiter_next _)))
  show wpAny _ _ (field (.ref I) 0 >>= _) _ _ s
  refine wpAny_bind (wpAny_field ho hd (x := .ref ax) rfl ?_)
  show wpAny _ _ (if (Value.ref ax == Value.none) = true then _ else _) _ _ s
  rw [if_neg (show ¬ ((Value.ref ax == Value.none) = true) from Bool.false_ne_true)]
  show wpAny _ _ (field (.ref I) 1 >>= _) _ _ s
  refine wpAny_bind (wpAny_field ho hd (x := .int i 0) rfl ?_)
  show wpAny _ _ (seqItems? (.ref ax) >>= _) _ _ s
  refine wpAny_bind (wpAny_seqItems hol hdl ?_)
  simp only [Int.toNat_natCast, hx]
  refine wpAny_bind (wpAny_setField ho hd (by simp) (wpAny_pure ⟨v, rfl, ?_⟩))
  refine wpAny_pure ⟨_, rfl, k _ ?_ (Heap.SameBut.update ..)⟩
  exact ⟨_, Heap.get?_update_self _ ho (Obj.isFreed_of_fields (Obj.data_mapFields hd _)), (Obj.cls_mapFields ..).trans hc, by
    rw [Obj.data_mapFields hd]; simp [rawInt]⟩
/-- a for over an iterator that has been begun -/
theorem ex_forIt {body : List Stmt} {I ax : Addr} {its : List Value} (i0 : Nat) (J : Nat → Heap → Prop) (ws : List Addr) (hh : A.handled = none)
    (hit : Ev w A env hp e (IsV (.ref I))) (hI : hp.IsListIter I ax i0) (hl : hp.IsList ax its.toArray) (hne : ax ≠ I) (hax : ax ∉ ws) (hIw : I ∉ ws) (hle : i0 ≤ its.length)
    (h0 : ∀ h', Ext hp h' → J i0 h') (hJ : ∀ i h h', J i h → KB [I] h h' → J i h')
    (step : ∀ i v h tk E', i < its.length → its[i]? = some v → J i h → wpAny (model P w) A (assign (.Name x px) env v) (fun _ s₂ => wpAny (model P w) A (execs body env)
      (fun f s₃ => (f = .next ∨ f = .cont) ∧ ∃ h₃ tk₃, s₃ = St s h₃ tk₃ ∧ J (i + 1) h₃ ∧ KB ws h h₃) E' s₂) E' (St s h tk))
    (done : ∀ h' tk, J its.length h' → Q .next (St s h' tk))
    (hs : ∀ x, foldedSetIterable e env x = pure x := by intro _; rfl) :
    wpAny (model P w) A (exec (.For (.Name x px) e body [] pos) env) Q E (St s hp tk₀) := by
  refine wpAny_For (Co.use hit (Ext.refl _) fun v h₁ k₁ hv e₁ => ?_) hs
  subst hv
  have hI1 : (St s h₁ k₁).heap.IsListIter I ax i0 := let ⟨o, a, b⟩ := hI; ⟨o, e₁ _ _ a, b⟩
  refine wpAny_pyIter_listiter hI1 ?_
  have W := Walks.list (prog := P) (w := w) (A := A) hh I ax hne its.toArray
  refine codeAny_forLoop (fun k s' => ∃ h tk i, s' = St s h tk ∧ h.IsListIter I ax i ∧ h.IsList ax its.toArray ∧ J i h ∧ i ≤ its.length ∧ k = its.length + 1 - i) ?_ (its.length + 1 - i0) ?_
  · rintro k s' ⟨h, tk, i, rfl, hi1, hi2, hj, hle, rfl⟩
    by_cases hlt : i < its.length
    · refine W.item i _ _ _ (by simpa using hlt) ⟨hi1, hi2⟩ fun v h₂ k₂ hP hst hk => ?_
      have hP' : its[i]? = some v := by simpa using hP
      have kb : KB [I] h h₂ := fun b o hb e => hk b o hb e
      refine wpAny_mono (step i v h₂ k₂ _ hlt hP' (hJ i h h₂ hj kb)) (fun _ s₂ hs₂ => wpAny_mono hs₂ ?_ fun _ _ e => e) fun _ _ e => e
      rintro f s₃ ⟨hfl, h₃, tk₃, rfl, hj₃, hk₃⟩
      have fin : ∃ m, m < its.length + 1 - i ∧ ∃ h tk i, (St s h₃ tk₃) = St s h tk ∧ h.IsListIter I ax i ∧ h.IsList ax its.toArray ∧ J i h ∧ i ≤ its.length ∧ m = its.length + 1 - i :=
        ⟨its.length + 1 - (i + 1), by omega, h₃, tk₃, i + 1, rfl, hst.1.at fun o e => hk₃ _ o hIw e, hst.2.at fun o e => hk₃ _ o hax e, hj₃, hlt, rfl⟩
      rcases hfl with rfl | rfl
      · exact fin
      · exact fin
    · have hie : i = its.length := by omega
      subst hie
      refine W.done (St s h tk) _ _ (by rw [List.size_toArray]; exact ⟨hi1, hi2⟩) fun h₂ k₂ hk => ?_
      exact wpAny_execs_nil (done h₂ k₂ (hJ _ h h₂ hj fun b o hb e => hk b o hb e))
  · exact ⟨h₁, k₁, i0, rfl, hI1, hl.at fun o q => e₁ _ o q, h0 _ e₁, hle, rfl⟩
theorem te_is {a b : Value} {l r : Expr} {c : Bool} (ha : Ev w A env h l (IsV a)) (hb : Ev w A env h r (IsV b)) (hp : plainIs a b = true ∨ ∃ x, a = .ref x ∧ b = .ref x) (hc : (a == b) = c) (hm : behindInMarks .Is r = false := by rfl) : Te w A env h (.Compare l [.Is] [r] pos) c := by
  refine te_cmp ha hb ?_ hm
  rintro _ _ rfl rfl
  refine Co.still fun s Q E hQ => ?_
  rcases hp with hp | ⟨x, rfl, rfl⟩
  · exact wpAny_is_plain hp (by rw [hc]; exact hQ _ s.toks rfl)
  · refine wpAny_is_ref_self ?_
    have : c = true := by rw [← hc]; simp
    subst this
    exact hQ _ s.toks rfl
/-- a value that is called with two arguments -/
theorem ev_fv2 {a : Addr} {o : Obj} {fd : FuncData} {e e₂ : Expr} {Va Vb : Value → Prop} {V : Value → Prop} (hf : Ev w A env h (.Name x px) (IsV (.ref a))) (ho : h.get? a = some o) (hd : o.data = .func fd) (he : Ev w A env h e Va) (he₂ : Ev w A env h e₂ Vb)
    (q : ∀ v u, Va v → Vb u → Co w A (call (.ref a) [v, u]) h V) (hs : starEach [e, e₂] env = [(false, eval e env), (false, eval e₂ env)] := by rfl) (hs₂ : starEach [e₂] env = [(false, eval e₂ env)] := by rfl) :
    Ev w A env h (.Call (.Name x px) [e, e₂] [] pos) V := by
  intro s Q E hI hQ
  refine Call_ (hf s _ E hI fun fv h₁ k₁ hv₁ e₁ => ?_)
  subst hv₁
  refine callWith_def hd (args_cons (he _ _ E (hI.trans e₁) fun v h₂ k₂ hv₂ e₂ => args_cons (he₂ _ _ E ((hI.trans e₁).trans e₂) fun u h₃ k₃ hv₃ e₃ => args_nil ?_) (by rw [hs₂]; rfl)) (by rw [hs, hs₂])) (by rw [hs, hs₂])
  refine ⟨(((hI.trans e₁).trans e₂).trans e₃) _ _ ho, ?_⟩
  exact q v u hv₂ hv₃ _ _ E (((hI.trans e₁).trans e₂).trans e₃) fun v h₄ k₄ hv₄ e₄ => hQ v h₄ k₄ hv₄ (((e₁.trans e₂).trans e₃).trans e₄)
theorem CoH.call1 {e : Expr} {Va : Value → Prop} {V : Value → Heap → Prop} {id : String} (hf : Ev w A env h (.Name x px) (IsV (.builtin id))) (ha : Ev w A env h e Va)
    (q : ∀ v, Va v → CoH w A (call (.builtin id) [v]) h V) (hs : starEach [e] env = [(false, eval e env)] := by rfl) : EvH w A env h (.Call (.Name x px) [e] [] pos) V := by
  intro s Q E hI hQ
  refine Call_ (hf s _ E hI fun fv h₁ k₁ hv₁ e₁ => ?_)
  subst hv₁
  refine callWith_builtin1 (args_cons (ha _ _ E (hI.trans e₁) fun v h₂ k₂ hv₂ e₂ => ?_) (by rw [hs]; rfl)) (by rw [hs]; rfl)
  refine args_nil ?_
  exact q v hv₂ _ _ E ((hI.trans e₁).trans e₂) fun v h₃ k₃ hv₃ e₃ => hQ v h₃ k₃ hv₃ ((e₁.trans e₂).trans e₃)
/-- x = next(it) -/
theorem ex_assignNext {I ax : Addr} {i : Nat} {its : Array Value} {v : Value} {it nx : Str} {p₁ p₂ p₃ : Pos} (F : At h₀ env.locals l hp) (hn : Ev w A env hp (.Name nx p₁) (IsV (.builtin "next"))) (hit : Ev w A env hp (.Name it p₂) (IsV (.ref I)))
    (hI : hp.IsListIter I ax i) (hl : hp.IsList ax its) (hx : its[i]? = some v) (hIL : I ≠ env.locals) (hI0 : h₀.get? I = none)
    (k : ∀ h' tk, At h₀ env.locals (setL l x v) h' → h'.IsListIter I ax (i + 1) → KB [env.locals, I] hp h' → Q .next (St s h' tk))
    (hk : env.scope.kind = .function := by rfl) (hlc : env.kindOf x = some .local := by rfl) (hs : starEach [.Name it p₂] env = [(false, eval (.Name it p₂) env)] := by rfl)
    (hsw : swapsWith (.Call (.Name nx p₁) [.Name it p₂] [] p₃) (some (.Name x px)) pos.line env = pure false := by rfl) :
    wpAny (model P w) A (exec (.Assign [.Name x px] (.Call (.Name nx p₁) [.Name it p₂] [] p₃) pos) env) Q E (St s hp tk₀) := by
  refine wpAny_Assign_Name (Call_ (Co.use hn (Ext.refl _) fun fv h₁ k₁ hv₁ e₁ => ?_)) hsw
  subst hv₁
  refine callWith_builtin1 (args_cons (Co.use hit e₁ fun u h₂ k₂ hv₂ e₂ => args_nil ?_) (by rw [hs]; rfl)) (by rw [hs]; rfl)
  subst hv₂
  have e12 := e₁.trans e₂
  refine co_next (s := St s h₂ k₂) (hI.at fun o q => e12 _ o q) (hl.at fun o q => e12 _ o q) hx fun h₃ hi3 hs3 => ?_
  have F3 : At h₀ env.locals l h₃ := (F.up e12).kb (ws := [I]) (by simpa using hIL.symm) (fun b hb => by rw [List.mem_singleton.mp hb]; exact hI0) (KB.of_same (by simp) hs3)
  refine stL (s := St s h₃ k₂) F3.ns (fun h₄ hn hs4 => ?_) hk hlc
  refine k h₄ _ ⟨hn, F3.ext.same F3.out hs4, F3.out⟩ (hi3.at fun o q => hs4.extBut _ o hIL q) ?_
  intro b o hb e
  simp only [List.mem_cons, List.not_mem_nil, or_false, not_or] at hb
  exact hs4.extBut b o hb.1 (hs3.extBut b o hb.2 (e12 _ _ e))
end
/-- the frame of reduce -/
noncomputable abbrev redFr (f sq ini : Value) (it value elem : Option Value) : FrL :=
  [(Str.ofString "function", some f), (Str.ofString "sequence", some sq), (Str.ofString "initial", some ini), (Str.ofString "it", it), (Str.ofString "value", value), (Str.ofString "element", elem)]
/-- texts folded -/
noncomputable def foldT (g : List Nat → List Nat → List Nat) (acc : List Nat) (xs : List (List Nat)) : List Nat := xs.foldl g acc
section
variable {w : World} {A : Around} {h : Heap} {mg mb : Str → Option Value}
theorem reduce_body {s : Shared} {L a fa ax ma : Addr} {cd ini : Value} {g : List Nat → List Nat → List Nat} {xs : List (List Nat)} {fo : Obj} {fd : FuncData} {h₁ : Heap} {tk : Nat} {Q : Value → Shared → Prop} {E : Value → Shared → Prop}
    (hL : Lib mg mb s.heap) (hm : mg "_initial_missing" = some (.ref ma)) (hh : A.handled = none) (hl : IsStrL s.heap ax xs) (hfo : s.heap.get? fa = some fo) (hfd : fo.data = .func fd)
    (acc₀ : List Nat) (i0 : Nat) (hini : (i0 = 0 ∧ ∃ t, ini = .str (S acc₀) t) ∨ (i0 = 1 ∧ ini = .ref ma ∧ xs[0]? = some acc₀))
    (hf : ∀ i x t u, i0 ≤ i → xs[i]? = some x → Co w A (call (.ref fa) [.str (S (foldT g acc₀ ((xs.take i).drop i0))) t, .str (S x) u]) s.heap (IsS (g (foldT g acc₀ ((xs.take i).drop i0)) x)))
    (F : At s.heap L (redFr (.ref fa) (.ref ax) ini none none none) h₁)
    (hQ : ∀ v h' tk, IsS (foldT g acc₀ (xs.drop i0)) v → Ext s.heap h' → Q v (St s h' tk)) :
    wpAny (model P w) A (execs (fBody (stAt 23)) (envOf "reduce" (fScope (stAt 23)) L a cd)) (fun f s' => Q (match f with | .ret v => v | _ => .none) s') E (St s h₁ tk) := by
  conv => arg 3; arg 1; whnf
  obtain ⟨vs, hl1, hl2⟩ := hl
  have hvl : vs.length = xs.length := by rw [hl2.len_eq]; simp
  -- it = iter(sequence)
  refine wpAny_execs_cons (ex_assignH F (V := fun v h' => ∃ I, v = .ref I ∧ h₁.get? I = none ∧ h'.IsListIter I ax 0) ?_ fun v h₁' h₂ k₂ hv e1' F2 kb2 => ?_)
  · refine CoH.call1 (ev_bi (hL.keeps F.ext) (by decide) boot_iter) (ev_local (v := .ref ax) F.ns rfl) fun v hv => ?_
    subst hv
    exact co_iter (hl1.at fun o q => F.ext _ o q)
  obtain ⟨I, rfl, hI1, hIt⟩ := hv
  have hIL : I ≠ L := F.ne hI1
  have hI0 : s.heap.get? I = none := by
    cases hq : s.heap.get? I with
    | none => rfl
    | some o => rw [F.ext _ _ hq] at hI1; cases hI1
  have hIt2 : h₂.IsListIter I ax 0 := hIt.at fun o q => kb2 _ o (fun z => hIL (List.mem_singleton.mp z)) q
  have hneI : ax ≠ I := by
    rintro rfl
    obtain ⟨o, ho, _⟩ := hl1
    rw [hI0] at ho; cases ho
  have hneL : ax ≠ L := by
    rintro rfl
    obtain ⟨o, ho, _⟩ := hl1
    rw [F.out] at ho; cases ho
  have hlist : ∀ {q : Heap}, Ext s.heap q → q.IsList ax vs.toArray := fun e => hl1.at fun o q => e _ o q
  have key : ∀ (h₃ : Heap) (k₃ : Nat) (tv : Tok) (hi0 : i0 ≤ xs.length), At s.heap L (redFr (.ref fa) (.ref ax) ini (some (.ref I)) (some (.str (S acc₀) tv)) none) h₃ → h₃.IsListIter I ax i0 →
      wpAny (model P w) A (execs (((fBody (stAt 23)).drop 2)) (envOf "reduce" (fScope (stAt 23)) L a cd)) (fun f s' => Q (match f with | .ret v => v | _ => .none) s') E (St s h₃ k₃) := by
    intro h₃ k₃ tv hi0 F3 hIt3
    conv => arg 3; arg 1; whnf
    refine wpAny_execs_cons (ex_forIt (its := vs) i0 (fun i q => i0 ≤ i ∧ ∃ tv o, At s.heap L (redFr (.ref fa) (.ref ax) ini (some (.ref I)) (some (.str (S (foldT g acc₀ ((xs.take i).drop i0))) tv)) o) q) [L] hh
      (ev_local (v := .ref I) F3.ns rfl) hIt3 (hlist F3.ext) hneI (by simpa using hneL) (by simpa using hIL) (by omega) ?_ ?_ ?_ ?_)
    · intro h' e'
      refine ⟨Nat.le_refl _, tv, none, ?_⟩
      rw [show (xs.take i0).drop i0 = [] from List.drop_eq_nil_iff.mpr (by rw [List.length_take]; omega)]
      exact F3.up e'
    · rintro i q q' ⟨hi, tv, o, x⟩ kb
      exact ⟨hi, tv, o, x.kb (by simpa using hIL.symm) (fun b hb => by rw [List.mem_singleton.mp hb]; exact hI0) kb⟩
    · rintro i v q k E' hi hv ⟨hi0', tv, o, G⟩
      obtain ⟨y, tl, rfl, hy⟩ := hl2.item i v hv
      obtain ⟨x, hx, rfl⟩ : ∃ x, xs[i]? = some x ∧ S x = y := by
        rw [List.getElem?_map] at hy
        cases hq : xs[i]? with
        | none => rw [hq] at hy; cases hy
        | some x => rw [hq] at hy; exact ⟨x, rfl, by simpa using hy⟩
      refine as_name G fun h₄ k₄ F4 kb4 => ?_
      refine wpAny_execs_cons (ex_assign F4 (V := IsS (g (foldT g acc₀ ((xs.take i).drop i0)) x)) (ev_fv2 (Va := IsV (.str (S (foldT g acc₀ ((xs.take i).drop i0))) tv)) (Vb := IsV (.str (S x) tl)) (ev_local (v := .ref fa) F4.ns rfl) (F4.ext _ _ hfo) hfd (ev_local F4.ns rfl) (ev_local F4.ns rfl) fun v u hv hu => by
        subst hv hu
        exact (hf i x tv tl hi0' hx).up F4.ext) fun v h₅ k₅ hv F5 kb5 => wpAny_execs_nil ⟨.inl rfl, h₅, k₅, rfl, ⟨by omega, ?_⟩, kb4.trans kb5⟩)
      obtain ⟨t5, rfl⟩ := hv
      refine ⟨t5, some (.str (S x) tl), ?_⟩
      have : (xs.take (i + 1)).drop i0 = (xs.take i).drop i0 ++ [x] := by
        rw [List.take_add_one, hx, List.drop_append_of_le_length]
        · rfl
        · rw [List.length_take]
          omega
      rw [this]
      unfold foldT
      rw [List.foldl_append]
      exact F5
    · rintro h' k' ⟨_, tv, o, G⟩
      refine wpAny_execs_cons (ex_ret (ev_localS (a := foldT g acc₀ ((xs.take vs.length).drop i0)) G.ns rfl) fun v h'' k'' hv e'' => hQ v h'' k'' ?_ (G.ext.trans e''))
      rw [hvl, List.take_length] at hv
      exact hv
  rcases hini with ⟨rfl, t0, rfl⟩ | ⟨rfl, rfl, hx0⟩
  · -- an initial text
    refine wpAny_execs_cons (ex_ifF (te_is (c := false) (ev_local (v := .str (S acc₀) t0) F2.ns rfl) (ev_global (hL.keeps F2.ext).g hm) (.inl rfl) rfl) rfl fun h₃ k₃ e3 => ?_)
    have F3 := F2.up e3
    refine wpAny_execs_cons (ex_assign F3 (ev_local (v := .str (S acc₀) t0) F3.ns rfl) fun v h₄ k₄ hv F4 kb4 => wpAny_execs_nil ?_)
    subst hv
    exact key h₄ k₄ t0 (Nat.zero_le _) F4 (hIt2.at fun o q => kb4 _ o (fun z => hIL (List.mem_singleton.mp z)) (e3 _ _ q))
  · -- the first of the sequence
    refine wpAny_execs_cons (ex_ifT (te_is (c := true) (ev_local (v := .ref ma) F2.ns rfl) (ev_global (hL.keeps F2.ext).g hm) (.inr ⟨ma, rfl, rfl⟩) (by simp)) rfl fun h₃ k₃ e3 => ?_)
    have F3 := F2.up e3
    have hpos : 0 < xs.length := by
      rcases Nat.lt_or_ge 0 xs.length with q | q
      · exact q
      · rw [List.getElem?_eq_none q] at hx0; cases hx0
    obtain ⟨v0, hv0⟩ : ∃ v, vs[0]? = some v := ⟨vs[0]'(by omega), by simp⟩
    obtain ⟨y, tl, rfl, hy⟩ := hl2.item 0 v0 hv0
    have hyx : S acc₀ = y := by
      rw [List.getElem?_map, hx0] at hy
      simpa using hy
    subst hyx
    refine wpAny_execs_cons (wpAny_Try_except (wpAny_execs_cons (ex_assignNext F3 (ev_bi (hL.keeps F3.ext) (by decide) boot_next) (ev_local (v := .ref I) F3.ns rfl) (hIt2.at fun o q => e3 _ o q) (hlist F3.ext) (by simpa using hv0) hIL hI0 fun h₄ k₄ F4 hIt4 kb4 => wpAny_execs_nil (wpAny_execs_nil (wpAny_execs_nil ?_)))))
    exact key h₄ k₄ tl hpos F4 hIt4
/-- reduce(f, xs) -/
theorem reduce_spec2 {a fa ax ma : Addr} {g : List Nat → List Nat → List Nat} {xs : List (List Nat)} {x₀ : List Nat} {fo : Obj} {fd : FuncData} {dV : Value} (hL : Lib mg mb h) (hm : mg "_initial_missing" = some (.ref ma)) (hfn : IsFn h a 23 "reduce" dV) (hdV : DefTup h dV #[.ref ma])
    (hr : A.depth + 40 < recursionLimit) (hh : A.handled = none) (hl : IsStrL h ax xs) (hfo : h.get? fa = some fo) (hfd : fo.data = .func fd) (hx0 : xs[0]? = some x₀)
    (hf : ∀ (A' : Around) i x t u, A'.depth = A.depth + 1 → A'.handled = none → 1 ≤ i → xs[i]? = some x → Co w A' (call (.ref fa) [.str (S (foldT g x₀ ((xs.take i).drop 1))) t, .str (S x) u]) h (IsS (g (foldT g x₀ ((xs.take i).drop 1)) x))) :
    Co w A (call (.ref a) [.ref fa, .ref ax]) h (IsS (foldT g x₀ (xs.drop 1))) := by
  intro s Q E hI hQ
  have hL' := hL.keeps hI
  refine fn_call (binds := [("function", .ref fa), ("sequence", .ref ax), ("initial", .ref ma)]) (by omega) hL'.lim (hfn.keeps hI) (fun _ _ _ _ _ _ => by obtain ⟨T, o, n, rfl, ho, hd⟩ := hdV; exact BindsTo.of_defaults rfl (hI _ _ ho) hd rfl rfl) (by decide) (locs rfl) ?_
  intro L cd h₁ A' E' hns hx hLn hd hh'
  rw [fr_binds3 (r := [Str.ofString "it", Str.ofString "value", Str.ofString "element"]) rfl rfl rfl] at hns
  exact reduce_body hL' hm (by rw [hh']; exact hh) (hl.up hI) (hI _ _ hfo) hfd x₀ 1 (.inr ⟨rfl, rfl, hx0⟩) (fun i x t u hi hx => (hf A' i x t u hd (by rw [hh']; exact hh) hi hx).up hI) ⟨hns, hx, hLn⟩ hQ
/-- reduce(f, xs, '') -/
theorem reduce_spec3 {a fa ax ma : Addr} {g : List Nat → List Nat → List Nat} {xs : List (List Nat)} {x₀ : List Nat} {t₀ : Tok} {fo : Obj} {fd : FuncData} {dV d1 : Value} (hL : Lib mg mb h) (hm : mg "_initial_missing" = some (.ref ma)) (hfn : IsFn h a 23 "reduce" dV) (hdV : DefTup h dV #[d1])
    (hr : A.depth + 40 < recursionLimit) (hh : A.handled = none) (hl : IsStrL h ax xs) (hfo : h.get? fa = some fo) (hfd : fo.data = .func fd)
    (hf : ∀ (A' : Around) i x t u, A'.depth = A.depth + 1 → A'.handled = none → xs[i]? = some x → Co w A' (call (.ref fa) [.str (S (foldT g x₀ (xs.take i))) t, .str (S x) u]) h (IsS (g (foldT g x₀ (xs.take i)) x))) :
    Co w A (call (.ref a) [.ref fa, .ref ax, .str (S x₀) t₀]) h (IsS (foldT g x₀ xs)) := by
  intro s Q E hI hQ
  have hL' := hL.keeps hI
  refine fn_call (binds := [("function", .ref fa), ("sequence", .ref ax), ("initial", .str (S x₀) t₀)]) (by omega) hL'.lim (hfn.keeps hI) (fun _ _ _ _ _ _ => by obtain ⟨T, o, n, rfl, ho, hd⟩ := hdV; exact BindsTo.of_defaults rfl (hI _ _ ho) hd rfl rfl) (by decide) (locs rfl) ?_
  intro L cd h₁ A' E' hns hx hLn hd hh'
  rw [fr_binds3 (r := [Str.ofString "it", Str.ofString "value", Str.ofString "element"]) rfl rfl rfl] at hns
  exact reduce_body hL' hm (by rw [hh']; exact hh) (hl.up hI) (hI _ _ hfo) hfd x₀ 0 (.inl ⟨rfl, t₀, rfl⟩) (fun i x t u hi hx => (hf A' i x t u hd (by rw [hh']; exact hh) hx).up hI) ⟨hns, hx, hLn⟩ hQ
end
end Mine

/-! ### QV1 -/
open PySem PySem.W PyProof.Rows PySem.Calls
set_option Elab.async false
set_option maxRecDepth 100000
set_option maxHeartbeats 4000000
set_option linter.unusedVariables false
namespace Mine
section
variable {w : World} {A : Around} {s : Shared} {hp h : Heap} {tk₀ : Nat} {env : Env} {E : Value → Shared → Prop} {Q : Flow → Shared → Prop} {pos px p apos : Pos} {x : Str} {e e₂ e₃ b l r : Expr}
/-- xs[lo:hi] of a list -/
theorem ev_sliceL {value : Expr} {lo up : Option Expr} {i j : Option Int} {G : List Value → Prop} (hv : EvH w A env h value fun v h' => ∃ a its, v = .ref a ∧ h'.IsList a its.toArray ∧ G its) (hl : Pt w A env h lo i) (hu : Pt w A env h up j) (hsz : ∀ its, G its → its.length ≤ sizeLine)
    (ht : ∀ o r, letTemporaryGo value o r = pure () := by intro _ _; rfl) :
    EvH w A env h (.Subscript value (.Slice lo up none p) pos) fun v h' => ∃ D its, v = .ref D ∧ h.get? D = none ∧ h'.get? D = some (lstObj (slicePick its.toArray i j none).toList 0) ∧ G its := by
  intro s Q E hI hQ
  refine wpAny_Subscript_list_slice (hv s _ E hI fun o h₁ k₁ hv₁ e₁ => ?_) ht
  obtain ⟨a, its, rfl, hL, hG⟩ := hv₁
  refine hl _ _ E (hI.trans e₁) fun vl h₂ k₂ hv₂ e₂ => ?_
  obtain ⟨ql, rfl, hql⟩ := hv₂
  refine hu _ _ E ((hI.trans e₁).trans e₂) fun vu h₃ k₃ hv₃ e₃ => ?_
  obtain ⟨qu, rfl, hqu⟩ := hv₃
  have part : ∀ q : Option (Int × Tok), IsPart (partValue q) (q.map (·.1)) := fun q => by
    cases q with
    | none => exact .none
    | some v => exact .int _ _
  refine ⟨a, its.toArray, i, j, rfl, hL.at fun o q => e₃ _ o (e₂ _ o q), by simpa using hsz its hG, hql ▸ part ql, hqu ▸ part qu, ?_⟩
  refine hQ _ _ _ ⟨_, its, rfl, ?_, ?_, hG⟩ (((e₁.trans e₂).trans e₃).trans ((Ext.push _ _).trans (Ext.push _ _)))
  · have := fresh_size (h := h₃.push { cls := .type "slice", data := .fields #[partValue ql, partValue qu, .none] }) ((((hI.trans e₁).trans e₂).trans e₃).trans (Ext.push _ _))
    rwa [Heap.size_push] at this
  · have := Heap.get?_push_size (h := h₃.push { cls := .type "slice", data := .fields #[partValue ql, partValue qu, .none] }) (o := { cls := .type "list", data := .seq (slicePick its.toArray i j none) }) rfl
    rw [Heap.size_push] at this
    refine (show (Heap.push _ _).get? (h₃.objs.size + 1) = _ from this).trans ?_
    simp [lstObj]
/-- the last of a list -/
theorem ev_itemN {value slice : Expr} {a : Addr} {its : List Value} {v : Value} (hv : Ev w A env hp value (IsV (.ref a))) (hl : hp.IsList a its.toArray) (hi : Ev w A env hp slice (IsI (-1))) (hx : its.getLast? = some v)
    (hs : ∀ a i u, subscripted slice false (.ref a) (.int i u) = operate [.ref a, .int i u] (getItem (.ref a) (.int i u)) := by intro _ _ _; with_unfolding_all rfl) : Ev w A env hp (.Subscript value slice pos) (IsV v) := by
  intro s Q E hI hQ
  refine Subscript_ (hv s _ E hI fun o h₁ k₁ hv₁ e₁ => ?_)
  subst hv₁
  refine hi _ _ E (hI.trans e₁) fun u h₂ k₂ hv₂ e₂ => ?_
  obtain ⟨u, rfl⟩ := hv₂
  have hL : (St (St s h₁ k₁) h₂ k₂).heap.IsList a its.toArray := hl.at fun o q => e₂ _ o (e₁ _ o (hI _ o q))
  have hpos : 0 < its.length := by
    cases its with
    | nil => cases hx
    | cons c r => simp
  have hix : its.toArray[((-1 : Int) + its.toArray.size).toNat]? = some v := by
    rw [List.getLast?_eq_getElem?] at hx
    rw [List.getElem?_toArray, ← hx]
    congr 1
    simp only [List.size_toArray]
    omega
  exact tail_any hL.typeIs slot_list_getitem.lookup (wpAny_getItem_list_neg hL (by omega) (by simp only [List.size_toArray]; omega) (by omega) hix (hQ v h₂ _ rfl (e₁.trans e₂))) (hs _ _ _)
/-- sum of whole numbers -/
theorem ev_sumL {ax : Addr} {vs : List Value} {ns : List Int} (hh : A.handled = none) (hf : Ev w A env h (.Name x px) (IsV (.builtin "sum"))) (ha : Ev w A env h e (IsV (.ref ax))) (hl : h.IsList ax vs.toArray) (hi : IntsAre vs ns)
    (hs : starEach [e] env = [(false, eval e env)] := by rfl) : Ev w A env h (.Call (.Name x px) [e] [] pos) (IsI ns.sum) := by
  refine Co.call1 (f := .none) hf ha ?_ hs
  rintro _ rfl
  intro s Q E hI hQ
  obtain ⟨xs, hxs⟩ := hi.allInts.items
  have hL : s.heap.IsList ax (intItems xs) := by rw [← hxs]; exact hl.at fun o q => hI _ o q
  refine sum_intListG hh hL fun h' tk t' hk => ?_
  refine hQ _ h' tk ⟨t', ?_⟩ hk
  congr 1
  rw [preSum_eq, List.take_of_length_le (by simp), ← hi.numsOf, show vs = vs.toArray.toList by simp, hxs, nums_intItems]
/-- b.append(e) -/
theorem ex_appG {V : Value → Heap → Prop} {D : Addr} {its : List Value} {n : Nat} (hx : Ev w A env hp b (IsV (.ref D))) (ho : hp.get? D = some (lstObj its n)) (he : EvH w A env hp e V) (hsz : its.length ≤ sizeLine)
    (k : ∀ v h₁ h' tk, V v h₁ → Ext hp h₁ → h'.get? D = some (lstObj (its ++ [v]) (n + 1)) → KB [D] h₁ h' → Q .next (St s h' tk))
    (hi : interactive env = false := by rfl) (hb : attributeBase b "append" env (eval b env) = eval b env := by rfl) (hl : (apos.endLine == pos.line) = true := by rfl) (hs : starEach [e] env = [(false, eval e env)] := by rfl) :
    wpAny (model P w) A (exec (.Expr (.Call (.Attribute b "append" apos) [e] [] pos) p) env) Q E (St s hp tk₀) := by
  refine wpAny_Expr ?_ hi rfl
  refine wpAny_Call_method_lateS hb (by rw [hs]; rfl) hl (Co.use hx (Ext.refl _) fun v h₁ k₁ hv₁ e₁ => ?_)
  subst hv₁
  refine ⟨"list", "list.append", PySem.F.plainAttrs_list, slot_list_append, type_append, ⟨_, e₁ _ _ ho, rfl⟩, ?_, callWith_method1 (args_cons (CoH.use he e₁ fun v h₂ k₂ hv₂ e₂ => args_nil ?_) (by rw [hs]; rfl)) (by rw [hs]; rfl)⟩
  · rintro b ⟨⟩
    exact ⟨_, e₁ _ _ ho, rfl⟩
  · refine append_at (s := St s h₂ k₂) (D := D) (its := its.toArray) (n := n) ((e₁.trans e₂) _ _ ho) (fun h₃ hs₃ ho₃ => ?_) (by simpa using hsz)
    exact k v h₂ h₃ k₂ hv₂ (e₁.trans e₂) (by rw [ho₃]; simp) (KB.of_same (by simp) hs₃)
/-- displays of texts -/
noncomputable def EvStrs (w : World) (A : Around) (env : Env) (h : Heap) : List Expr → List (List Nat) → Prop
  | [], [] => True
  | e :: es, x :: xs => Ev w A env h e (IsS x) ∧ starEach (e :: es) env = (false, eval e env) :: starEach es env ∧ EvStrs w A env h es xs
  | _, _ => False
theorem args_strs {es : List Expr} : ∀ {xs : List (List Nat)} {s : Shared} {Q : List Value → Shared → Prop} {E : Value → Shared → Prop}, EvStrs w A env h es xs → Ext h s.heap →
    (∀ vs h' tk, StrsAre vs (xs.map S) → Ext s.heap h' → Q vs (St s h' tk)) → wpAny (model P w) A (spliced (backTo pos (starEach es env))) Q E s := by
  induction es with
  | nil =>
    intro xs s Q E hx hI k
    cases xs with
    | nil => exact args_nil (k [] s.heap s.toks .nil (Ext.refl _))
    | cons x xs => exact hx.elim
  | cons e es ih =>
    intro xs s Q E hx hI k
    cases xs with
    | nil => exact hx.elim
    | cons x xs =>
      refine args_cons (hx.1 s _ E hI fun v h₁ k₁ hv e₁ => ?_) hx.2.1
      obtain ⟨t, rfl⟩ := hv
      exact ih hx.2.2 (hI.trans e₁) fun vs h' tk hvs e' => k _ h' tk (.cons _ _ hvs) (e₁.trans e')
theorem ev_listS {es : List Expr} {xs : List (List Nat)} (hx : EvStrs w A env h es xs) (hsz : xs.length ≤ sizeLine) : EvH w A env h (.List es pos) fun v h' => ∃ D vs, v = .ref D ∧ h.get? D = none ∧ h'.get? D = some (lstObj vs 0) ∧ StrsAre vs (xs.map S) := by
  intro s Q E hI hQ
  show wpAny _ _ (do standAt pos; newList (← spliced (backTo pos (starEach es env)))) _ _ _
  refine wpAny_bind (wpAny_standAt (wpAny_bind (args_strs hx hI fun vs h₁ k₁ hvs e₁ => ?_)))
  exact newList_co (h := h) (by rw [hvs.len_eq]; simpa using hsz) _ Q E (hI.trans e₁) fun v h₂ k₂ ⟨D, a, b, c⟩ e₂ => hQ v h₂ k₂ ⟨D, vs, a, b, c, hvs⟩ (e₁.trans e₂)
theorem ev_list3H {V V₂ V₃ : Heap → Value → Heap → Prop} (he : ∀ h', Ext h h' → EvH w A env h' e (V h')) (he₂ : ∀ h', Ext h h' → EvH w A env h' e₂ (V₂ h')) (he₃ : ∀ h', Ext h h' → EvH w A env h' e₃ (V₃ h')) (hs : starEach [e, e₂, e₃] env = [(false, eval e env), (false, eval e₂ env), (false, eval e₃ env)] := by rfl)
    (hs₂ : starEach [e₂, e₃] env = [(false, eval e₂ env), (false, eval e₃ env)] := by rfl) (hs₃ : starEach [e₃] env = [(false, eval e₃ env)] := by rfl) :
    EvH w A env h (.List [e, e₂, e₃] pos) fun v h' => ∃ D u z y h₀ h₁ h₂ h₃, Ext h h₀ ∧ V h₀ u h₁ ∧ Ext h₀ h₁ ∧ V₂ h₁ z h₂ ∧ Ext h₁ h₂ ∧ V₃ h₂ y h₃ ∧ Ext h₂ h₃ ∧ v = .ref D ∧ h₃.get? D = none ∧ Ext h₃ h' ∧ h'.get? D = some (lstObj [u, z, y] 0) := by
  intro s Q E hI hQ
  show wpAny _ _ (do standAt pos; newList (← spliced (backTo pos (starEach [e, e₂, e₃] env)))) _ _ _
  refine wpAny_bind (wpAny_standAt (wpAny_bind (args_cons (he s.heap hI s _ E (Ext.refl _) fun u h₁ k₁ hv₁ e₁ => args_cons (he₂ h₁ (hI.trans e₁) _ _ E (Ext.refl _) fun z h₂ k₂ hv₂ e₂ => args_cons (he₃ h₂ ((hI.trans e₁).trans e₂) _ _ E (Ext.refl _) fun y h₃ k₃ hv₃ e₃ => args_nil ?_) (by rw [hs₃]; rfl)) (by rw [hs₂, hs₃])) (by rw [hs, hs₂]))))
  exact newList_co (h := h₃) (by rw [sizeLine_eq]; simp) _ Q E (Ext.refl _) fun v h₄ k₄ ⟨D, a, b, c⟩ e₄ => hQ v h₄ k₄ ⟨D, u, z, y, s.heap, h₁, h₂, h₃, hI, hv₁, e₁, hv₂, e₂, hv₃, e₃, a, b, e₄, c⟩ (((e₁.trans e₂).trans e₃).trans e₄)
/-- lists end to end, both new -/
theorem ev_addLH {G₁ G : List Value → Prop} (ha : EvH w A env h l fun v h' => ∃ a vs, v = .ref a ∧ h'.IsList a vs.toArray ∧ G₁ vs) (hb : EvH w A env h r fun v h' => ∃ b ws, v = .ref b ∧ h'.IsList b ws.toArray ∧ G ws) (hsz : ∀ vs ws, G₁ vs → G ws → vs.length + ws.length ≤ sizeLine) :
    EvH w A env h (.BinOp l .Add r pos) fun v h' => ∃ D vs ws, v = .ref D ∧ h.get? D = none ∧ h'.IsList D (vs ++ ws).toArray ∧ G₁ vs ∧ G ws := by
  intro s Q E hI hQ
  refine wpAny_BinOp (ha s _ E hI fun o h₁ k₁ hv₁ e₁ => ?_)
  obtain ⟨a, vs, rfl, hl, hG₁⟩ := hv₁
  refine hb _ _ E (hI.trans e₁) fun o h₂ k₂ hv₂ e₂ => ?_
  obtain ⟨b, ws, rfl, hw, hG⟩ := hv₂
  refine co_addL (h := h₂) (hl.at fun o q => e₂ _ o q) hw (hsz vs ws hG₁ hG) _ Q E (Ext.refl _) fun v h₃ k₃ ⟨D, a, b, c⟩ e₃ => ?_
  refine hQ v h₃ k₃ ⟨D, vs, ws, a, ?_, c, hG₁, hG⟩ ((e₁.trans e₂).trans e₃)
  cases hq : h.get? D with
  | none => rfl
  | some o => have := (hI.trans (e₁.trans e₂)) _ _ hq; rw [b] at this; cases this
/-- a for over a list that stands; the turn keeps the iterator and the list -/
theorem ex_forG {body : List Stmt} {ax : Addr} {its : List Value} (J : Addr → Nat → Heap → Prop) (hh : A.handled = none)
    (hit : Ev w A env hp e (IsV (.ref ax))) (hl : hp.IsList ax its.toArray)
    (h0 : ∀ I h', hp.get? I = none → Ext hp h' → (∃ o, h'.get? I = some o) → J I 0 h') (hJ : ∀ I i h h', hp.get? I = none → J I i h → KB [I] h h' → J I i h')
    (step : ∀ I i v h tk E', hp.get? I = none → i < its.length → its[i]? = some v → J I i h → h.IsListIter I ax (i + 1) → h.IsList ax its.toArray → wpAny (model P w) A (assign (.Name x px) env v) (fun _ s₂ => wpAny (model P w) A (execs body env)
      (fun f s₃ => (f = .next ∨ f = .cont) ∧ ∃ h₃ tk₃, s₃ = St s h₃ tk₃ ∧ J I (i + 1) h₃ ∧ h₃.IsListIter I ax (i + 1) ∧ h₃.IsList ax its.toArray) E' s₂) E' (St s h tk))
    (done : ∀ I h' tk, hp.get? I = none → J I its.length h' → Q .next (St s h' tk))
    (hs : ∀ x, foldedSetIterable e env x = pure x := by intro _; rfl) :
    wpAny (model P w) A (exec (.For (.Name x px) e body [] pos) env) Q E (St s hp tk₀) := by
  refine wpAny_For (Co.use hit (Ext.refl _) fun v h₁ k₁ hv e₁ => ?_) hs
  subst hv
  have hl1 : h₁.IsList ax its.toArray := hl.at fun o q => e₁ _ o q
  refine wpAny_pyIter_list (s := St s h₁ k₁) hl1 ?_
  show codeAny _ _ _ _ (St s (h₁.push _) k₁)
  have hI1 : h₁.get? h₁.objs.size = none := fresh_size (Ext.refl _)
  have hIs : (St s h₁ k₁).heap.objs.size = h₁.objs.size := rfl
  rw [hIs]
  generalize hIe : h₁.objs.size = I at *
  have hI0 : hp.get? I = none := by
    cases hq : hp.get? I with
    | none => rfl
    | some o => rw [e₁ _ _ hq] at hI1; cases hI1
  have hneI : ax ≠ I := by
    rintro rfl
    obtain ⟨o, ho, _⟩ := hl1
    rw [hI1] at ho; cases ho
  have W := Walks.list (prog := P) (w := w) (A := A) hh I ax hneI its.toArray
  refine codeAny_forLoop (fun k s' => ∃ h tk i, s' = St s h tk ∧ h.IsListIter I ax i ∧ h.IsList ax its.toArray ∧ J I i h ∧ i ≤ its.length ∧ k = its.length + 1 - i) ?_ (its.length + 1) ?_
  · rintro k s' ⟨h, tk, i, rfl, hi1, hi2, hj, hle, rfl⟩
    by_cases hlt : i < its.length
    · refine W.item i _ _ _ (by simpa using hlt) ⟨hi1, hi2⟩ fun v h₂ k₂ hP hst hk => ?_
      have hP' : its[i]? = some v := by simpa using hP
      have kb : KB [I] h h₂ := fun b o hb e => hk b o hb e
      refine wpAny_mono (step I i v h₂ k₂ _ hI0 hlt hP' (hJ I i h h₂ hI0 hj kb) hst.1 hst.2) (fun _ s₂ hs₂ => wpAny_mono hs₂ ?_ fun _ _ e => e) fun _ _ e => e
      rintro f s₃ ⟨hfl, h₃, tk₃, rfl, hj₃, hk₃, hk₄⟩
      have fin : ∃ m, m < its.length + 1 - i ∧ ∃ h tk i, (St s h₃ tk₃) = St s h tk ∧ h.IsListIter I ax i ∧ h.IsList ax its.toArray ∧ J I i h ∧ i ≤ its.length ∧ m = its.length + 1 - i :=
        ⟨its.length + 1 - (i + 1), by omega, h₃, tk₃, i + 1, rfl, hk₃, hk₄, hj₃, hlt, rfl⟩
      rcases hfl with rfl | rfl
      · exact fin
      · exact fin
    · have hie : i = its.length := by omega
      subst hie
      refine W.done (St s h tk) _ _ (by rw [List.size_toArray]; exact ⟨hi1, hi2⟩) fun h₂ k₂ hk => ?_
      exact wpAny_execs_nil (done I h₂ k₂ hI0 (hJ I _ h h₂ hI0 hj fun b o hb e => hk b o hb e))
  · refine ⟨_, _, 0, rfl, ?_, ?_, h0 I _ hI0 (e₁.trans (Ext.push _ _)) ?_, Nat.zero_le _, rfl⟩
    · exact ⟨_, by rw [← hIe]; exact Heap.get?_push_size _ rfl, rfl, rfl⟩
    · exact hl1.at fun o e => Heap.get?_push_of_some _ e
    · exact ⟨_, by rw [← hIe]; exact Heap.get?_push_size _ rfl⟩
end
end Mine

/-! ### QV -/
open PySem PySem.W PyProof.Rows PySem.Calls
set_option Elab.async false
set_option maxRecDepth 100000
set_option maxHeartbeats 4000000
set_option linter.unusedVariables false
namespace Mine
/-! ## the parts -/
noncomputable def pieceL : List (List Nat) := [[97], [61], [32], [9], [13], [10], [233], [61, 52], [], [61, 10]]
noncomputable def pieceOf (x : Int) : List Nat := if (x.fdiv 3).fmod 10 ≠ 8 then pieceL.getD ((x.fdiv 3).fmod 10).toNat [] else [32 + ((x.fdiv 30).fmod 96).toNat] ++ [32]
noncomputable def growP (xss : List (List (List Nat))) (x : Int) : List (List (List Nat)) := if xss.length = 3 ∨ (x.fmod 3 = 0 ∧ xss.length < 6) then xss ++ [[]] else xss
noncomputable def stepP (xss : List (List (List Nat))) (x : Int) : List (List (List Nat)) :=
  if x.fmod 3 ≠ 0 then (growP xss x).dropLast ++ [(growP xss x).getLastD [] ++ [pieceOf x]] else growP xss x
noncomputable def startP : List (List (List Nat)) := [[[63, 64, 90, 94, 96, 126, 127, 61, 32]], [], [[61, 52, 61]]]
noncomputable def partsP (ns : List Int) : List (List (List Nat)) := ns.foldl stepP startP
noncomputable def endSign (ns : List Int) : Nat := if ns.sum.fmod 2 = 0 then 10 else 13
noncomputable def textsP (ns : List Int) : List (List Nat) := (partsP ns).map fun q => q.flatten ++ [10]
noncomputable def drawnP (ns : List Int) : List (List Nat) := (textsP ns).dropLast ++ [((textsP ns).getLastD []).dropLast ++ [endSign ns]]
theorem growP_ne {xss : List (List (List Nat))} {x : Int} (h : xss ≠ []) : growP xss x ≠ [] := by
  unfold growP; split <;> simp [h]
theorem stepP_ne {xss : List (List (List Nat))} {x : Int} (h : xss ≠ []) : stepP xss x ≠ [] := by
  unfold stepP; split
  · simp
  · exact growP_ne h
theorem growP_len {xss : List (List (List Nat))} {x : Int} : (growP xss x).length ≤ xss.length + 1 := by unfold growP; split <;> simp
theorem stepP_len {xss : List (List (List Nat))} {x : Int} (h : xss ≠ []) : (stepP xss x).length ≤ xss.length + 1 := by
  have h1 := growP_len (xss := xss) (x := x)
  have h2 : 0 < (growP xss x).length := List.length_pos_iff.mpr (growP_ne h)
  unfold stepP; split
  · simp; omega
  · exact h1
theorem parts_inv (ns : List Int) : partsP ns ≠ [] ∧ (partsP ns).length ≤ 3 + ns.length := by
  have gen : ∀ (ns : List Int) (xss : List (List (List Nat))), xss ≠ [] → ns.foldl stepP xss ≠ [] ∧ (ns.foldl stepP xss).length ≤ xss.length + ns.length := by
    intro ns
    induction ns with
    | nil => intro xss h; exact ⟨h, by simp⟩
    | cons n r ih =>
      intro xss h
      obtain ⟨h1, h2⟩ := ih _ (stepP_ne (x := n) h)
      refine ⟨h1, ?_⟩
      have := stepP_len (x := n) h
      simp only [List.foldl_cons, List.length_cons] at h2 ⊢
      omega
  exact gen ns startP (by decide)
/-! ## a list of lists of texts -/
noncomputable abbrev TxtAt (q : Heap) (r : Addr) (xs : List (List Nat)) : Prop := ∃ vs n, q.get? r = some (lstObj vs n) ∧ StrsAre vs (xs.map S)
noncomputable def PartsAt (h₀ : Heap) (bad : List Addr) (D : Addr) (xss : List (List (List Nat))) (q : Heap) : Prop :=
  ∃ refs n, q.get? D = some (lstObj (refs.map .ref) n) ∧ refs.Nodup ∧ (∀ r ∈ refs, r ∉ bad ∧ h₀.get? r = none) ∧ Paired (TxtAt q) refs xss
theorem pMono {α β : Type} {F G : α → β → Prop} : ∀ {l₁ : List α} {l₂ : List β}, Paired F l₁ l₂ → (∀ a b, a ∈ l₁ → F a b → G a b) → Paired G l₁ l₂
  | _, _, .nil, _ => .nil
  | _, _, .cons h t, k => .cons (k _ _ (by simp) h) (pMono t fun a b ha => k a b (by simp [ha]))
theorem pLen {α β : Type} {F : α → β → Prop} : ∀ {l₁ : List α} {l₂ : List β}, Paired F l₁ l₂ → l₁.length = l₂.length
  | _, _, .nil => rfl
  | _, _, .cons _ t => by simp [pLen t]
theorem pUnsnoc {α β : Type} {F : α → β → Prop} {x : β} : ∀ {l₁ : List α} {l₂ : List β}, Paired F l₁ (l₂ ++ [x]) → ∃ pre r, l₁ = pre ++ [r] ∧ Paired F pre l₂ ∧ F r x
  | _, [], .cons h .nil => ⟨[], _, rfl, .nil, h⟩
  | _, y :: l₂, .cons h t => by
    obtain ⟨pre, r, rfl, h1, h2⟩ := pUnsnoc t
    exact ⟨_ :: pre, r, rfl, .cons h h1, h2⟩
theorem pAt {α β : Type} {F : α → β → Prop} : ∀ {l₁ : List α} {l₂ : List β} {i : Nat} {a : α}, Paired F l₁ l₂ → l₁[i]? = some a → ∃ b, l₂[i]? = some b ∧ F a b
  | _, _, 0, _, .cons h _, e => by simp at e; subst e; exact ⟨_, rfl, h⟩
  | _, _, i + 1, _, .cons _ t, e => pAt (i := i) t (by simpa using e)
theorem PartsAt.kb {h₀ : Heap} {bad ws : List Addr} {D : Addr} {xss : List (List (List Nat))} {q q' : Heap} (x : PartsAt h₀ bad D xss q) (k : KB ws q q') (hD : D ∉ ws) (hb : ∀ b ∈ ws, b ∈ bad) : PartsAt h₀ bad D xss q' := by
  obtain ⟨refs, n, h1, h2, h3, h4⟩ := x
  refine ⟨refs, n, k _ _ hD h1, h2, h3, pMono h4 fun a b ha ⟨vs, m, e, hs⟩ => ⟨vs, m, k _ _ (fun z => (h3 a ha).1 (hb a z)) e, hs⟩⟩
theorem PartsAt.up {h₀ : Heap} {bad : List Addr} {D : Addr} {xss : List (List (List Nat))} {q q' : Heap} (x : PartsAt h₀ bad D xss q) (k : Ext q q') : PartsAt h₀ bad D xss q' := by
  obtain ⟨refs, n, h1, h2, h3, h4⟩ := x
  exact ⟨refs, n, k _ _ h1, h2, h3, pMono h4 fun a b ha ⟨vs, m, e, hs⟩ => ⟨vs, m, k _ _ e, hs⟩⟩
/-- one more empty part -/
theorem PartsAt.grow {h₀ : Heap} {bad : List Addr} {D r : Addr} {refs : List Addr} {n m : Nat} {xss : List (List (List Nat))} {q q₁ q' : Heap} (h2 : refs.Nodup) (h3 : ∀ r ∈ refs, r ∉ bad ∧ h₀.get? r = none) (h4 : Paired (TxtAt q) refs xss)
    (e : Ext q q₁) (hr : q.get? r = none) (hr1 : q₁.get? r = some (lstObj [] m)) (k : KB [D] q₁ q') (hD : q'.get? D = some (lstObj (refs.map .ref ++ [.ref r]) n)) (hrb : r ∉ bad) (hr0 : h₀.get? r = none) (hDb : D ∈ bad) : PartsAt h₀ bad D (xss ++ [[]]) q' := by
  have hrr : r ∉ refs := fun z => by
    obtain ⟨i, hi⟩ := List.getElem?_of_mem z
    obtain ⟨xs, _, vs, m, e', _⟩ := pAt h4 hi
    rw [hr] at e'; cases e'
  have nD : ∀ a ∈ refs, a ∉ [D] := fun a ha z => (h3 a ha).1 (List.mem_singleton.mp z ▸ hDb)
  refine ⟨refs ++ [r], n, by rw [hD]; simp, ?_, ?_, Paired.snoc (pMono h4 fun a b ha ⟨vs, m, e', hs⟩ => ⟨vs, m, k _ _ (nD a ha) (e _ _ e'), hs⟩) ⟨[], m, k _ _ (fun z => hrb (List.mem_singleton.mp z ▸ hDb)) hr1, .nil⟩⟩
  · rw [List.nodup_append]
    refine ⟨h2, by simp, ?_⟩
    intro a ha b hb
    rw [List.mem_singleton.mp hb]
    rintro rfl
    exact hrr ha
  · intro a ha
    rcases List.mem_append.mp ha with z | z
    · exact h3 a z
    · rw [List.mem_singleton.mp z]; exact ⟨hrb, hr0⟩
/-- one more text in the last part -/
theorem PartsAt.addTo {h₀ : Heap} {bad : List Addr} {D r : Addr} {refs : List Addr} {n m : Nat} {ys : List (List (List Nat))} {last : List (List Nat)} {x : List Nat} {t : Tok} {vs : List Value} {q q' : Heap} (hD : q.get? D = some (lstObj ((refs ++ [r]).map .ref) n))
    (h2 : (refs ++ [r]).Nodup) (h3 : ∀ a ∈ refs ++ [r], a ∉ bad ∧ h₀.get? a = none) (h4 : Paired (TxtAt q) refs ys) (hs : StrsAre vs (last.map S)) (k : KB [r] q q') (hr : q'.get? r = some (lstObj (vs ++ [.str (S x) t]) m)) (hDb : D ∈ bad) :
    PartsAt h₀ bad D (ys ++ [last ++ [x]]) q' := by
  have hDr : D ∉ [r] := fun z => (h3 r (by simp)).1 (List.mem_singleton.mp z ▸ hDb)
  have hnr : ∀ a ∈ refs, a ∉ [r] := fun a ha z => by
    rw [List.nodup_append] at h2
    exact h2.2.2 a ha r (by simp) (List.mem_singleton.mp z)
  refine ⟨refs ++ [r], n, k _ _ hDr hD, h2, h3, Paired.snoc (pMono h4 fun a b ha ⟨vs, m, e, hs⟩ => ⟨vs, m, k _ _ (hnr a ha) e, hs⟩) ⟨_, m, hr, ?_⟩⟩
  rw [List.map_append]
  exact kct_snoc hs
noncomputable def totP (xss : List (List (List Nat))) : Nat := xss.flatten.flatten.length
/-- the frame of _law_parts -/
noncomputable abbrev parFr (numbers : Value) (pieces parts x texts : Option Value) : FrL :=
  [(Str.ofString "numbers", some numbers), (Str.ofString "pieces", pieces), (Str.ofString "parts", parts), (Str.ofString "x", x), (Str.ofString "texts", texts)]
theorem totP_grow (xss : List (List (List Nat))) (x : Int) : totP (growP xss x) = totP xss := by
  unfold growP totP; split <;> simp
noncomputable def cntP (xss : List (List (List Nat))) : Nat := xss.flatten.length
theorem cntP_grow (xss : List (List (List Nat))) (x : Int) : cntP (growP xss x) = cntP xss := by
  unfold growP cntP; split <;> simp
theorem cntP_step {xss : List (List (List Nat))} (h : xss ≠ []) (x : Int) : cntP (stepP xss x) ≤ cntP xss + 1 := by
  have hg := cntP_grow xss x
  unfold stepP
  split
  · have hne := growP_ne (x := x) h
    rcases List.eq_nil_or_concat (growP xss x) with e | ⟨q, c, e⟩
    · exact absurd e hne
    · rw [← hg, e]
      unfold cntP
      simp [List.concat_eq_append]
      omega
  · omega
theorem cntP_parts (ns : List Int) : cntP (partsP ns) ≤ 2 + ns.length := by
  have gen : ∀ (ns : List Int) (xss : List (List (List Nat))), xss ≠ [] → cntP (ns.foldl stepP xss) ≤ cntP xss + ns.length := by
    intro ns
    induction ns with
    | nil => intro xss h; simp
    | cons n r ih =>
      intro xss h
      have h1 := ih _ (stepP_ne (x := n) h)
      have h2 := cntP_step h n
      simp only [List.foldl_cons, List.length_cons] at h1 ⊢
      omega
  exact gen ns startP (by decide)
theorem piece_at {x : Int} (h : (x.fdiv 3).fmod 10 ≠ 8) : pieceL[((x.fdiv 3).fmod 10).toNat]? = some (pieceOf x) := by
  have h1 := Int.fmod_lt_of_pos (x.fdiv 3) (b := 10) (by omega)
  have h0 := Int.fmod_nonneg_of_pos (x.fdiv 3) (b := 10) (by omega)
  unfold pieceOf
  rw [if_pos h]
  generalize hk : ((x.fdiv 3).fmod 10).toNat = k
  have hk' : k < 10 := by omega
  have : k < pieceL.length := hk'
  rw [List.getElem?_eq_getElem this, List.getD_eq_getElem?_getD, List.getElem?_eq_getElem this]
  rfl
theorem pieceOf_len (x : Int) : (pieceOf x).length ≤ 2 := by
  unfold pieceOf
  split
  · generalize ((x.fdiv 3).fmod 10).toNat = k
    match k with
    | 0 | 1 | 2 | 3 | 4 | 5 | 6 | 7 | 8 | 9 => decide
    | k + 10 => simp [pieceL]
  · simp
theorem totP_step {xss : List (List (List Nat))} (h : xss ≠ []) (x : Int) : totP (stepP xss x) ≤ totP xss + 2 := by
  have hg := totP_grow xss x
  have hp := pieceOf_len x
  unfold stepP
  split
  · have hne := growP_ne (x := x) h
    rcases List.eq_nil_or_concat (growP xss x) with e | ⟨q, c, e⟩
    · exact absurd e hne
    · rw [← hg, e]
      unfold totP
      simp [List.concat_eq_append]
      omega
  · omega
theorem totP_parts (ns : List Int) : totP (partsP ns) ≤ 12 + 2 * ns.length := by
  have gen : ∀ (ns : List Int) (xss : List (List (List Nat))), xss ≠ [] → totP (ns.foldl stepP xss) ≤ totP xss + 2 * ns.length := by
    intro ns
    induction ns with
    | nil => intro xss h; simp
    | cons n r ih =>
      intro xss h
      have h1 := ih _ (stepP_ne (x := n) h)
      have h2 := totP_step h n
      simp only [List.foldl_cons, List.length_cons] at h1 ⊢
      omega
  exact gen ns startP (by decide)
theorem part_len {ns : List Int} {xs : List (List Nat)} (h : xs ∈ partsP ns) : xs.flatten.length ≤ 12 + 2 * ns.length := by
  refine Nat.le_trans ?_ (totP_parts ns)
  unfold totP
  obtain ⟨a, b, e⟩ := List.append_of_mem h
  rw [e]
  simp
  omega
noncomputable def strCps : Value → List Nat | .str x _ => x.cps.toList | _ => []
noncomputable def txOf (h : Heap) : Value → List Nat
  | .ref r => (match h.get? r with | some o => (match o.data with | .seq vs _ => (vs.toList.map strCps).flatten | _ => []) | none => [])
  | _ => []
theorem strs_cps : ∀ {vs : List Value} {xs : List (List Nat)}, StrsAre vs (xs.map S) → vs.map strCps = xs
  | [], [], _ => rfl
  | [], _ :: _, h => by cases h
  | _ :: _, [], h => by cases h
  | v :: vs, x :: xs, h => by
    rw [List.map_cons] at h
    cases h with
    | cons _ t hr => rw [List.map_cons, strs_cps hr]; rfl
theorem txOf_eq {q : Heap} {r : Addr} {xs : List (List Nat)} (x : TxtAt q r xs) : txOf q (.ref r) = xs.flatten := by
  obtain ⟨vs, n, e, hs⟩ := x
  simp only [txOf, e]
  rw [strs_cps hs]
theorem pAtR {α β : Type} {F : α → β → Prop} : ∀ {l₁ : List α} {l₂ : List β} {i : Nat} {b : β}, Paired F l₁ l₂ → l₂[i]? = some b → ∃ a, l₁[i]? = some a ∧ F a b
  | _, _, 0, _, .cons h _, e => by simp at e; subst e; exact ⟨_, rfl, h⟩
  | _, _, i + 1, _, .cons _ t, e => pAtR (i := i) t (by simpa using e)
theorem strs_dropLast {vs : List Value} {xs : List (List Nat)} (h : StrsAre vs (xs.map S)) : StrsAre vs.dropLast (xs.dropLast.map S) := by
  have hl : vs.length = xs.length := by rw [h.len_eq]; simp
  refine strs_of (by simp [hl]) fun j v hj => ?_
  rw [List.getElem?_dropLast] at hj
  split at hj
  · rename_i hlt
    obtain ⟨y, t, rfl, hy⟩ := h.item j v hj
    rw [List.getElem?_map] at hy
    cases hq : xs[j]? with
    | none => rw [hq] at hy; cases hy
    | some z =>
      rw [hq] at hy
      simp only [Option.map_some, Option.some.injEq] at hy
      refine ⟨z, t, ?_, by rw [hy]⟩
      rw [List.getElem?_dropLast, if_pos (by omega), hq]
  · cases hj
theorem strs_last {vs : List Value} {xs : List (List Nat)} (h : StrsAre vs (xs.map S)) (hne : xs ≠ []) : ∃ t, vs.getLast? = some (.str (S (xs.getLastD [])) t) := by
  have hl : vs.length = xs.length := by rw [h.len_eq]; simp
  have hp : 0 < xs.length := List.length_pos_iff.mpr hne
  have e1 : vs[vs.length - 1]? = some (vs[vs.length - 1]'(by omega)) := List.getElem?_eq_getElem _
  obtain ⟨y, t, e2, e3⟩ := h.item _ _ e1
  refine ⟨t, ?_⟩
  rw [List.getLast?_eq_getElem?, e1, e2]
  congr 2
  rw [List.getElem?_map] at e3
  cases hq : xs[vs.length - 1]? with
  | none => rw [hq] at e3; cases e3
  | some z =>
    rw [hq] at e3
    simp only [Option.map_some, Option.some.injEq] at e3
    rw [← e3]
    congr 1
    rw [List.getLastD_eq_getLast?, List.getLast?_eq_getElem?, ← hl, hq]
    rfl
theorem textsP_ne (ns : List Int) : textsP ns ≠ [] := by
  unfold textsP
  have := (parts_inv ns).1
  simpa using this
theorem textsP_last (ns : List Int) : (textsP ns).getLastD [] ≠ [] := by
  have hne := textsP_ne ns
  have : ∀ t ∈ textsP ns, t ≠ [] := by
    intro t ht
    unfold textsP at ht
    obtain ⟨q, _, rfl⟩ := List.mem_map.mp ht
    simp
  refine this _ ?_
  rw [List.getLastD_eq_getLast?, List.getLast?_eq_some_getLast hne]
  exact List.getLast_mem hne
section
variable {w : World} {A : Around} {h : Heap} {mg mb : Str → Option Value}
theorem parts_body {s : Shared} {L a ax : Addr} {cd : Value} {ivs : List Value} {ns : List Int} {h₁ : Heap} {tk : Nat} {Q : Value → Shared → Prop} {E : Value → Shared → Prop} (hL' : Lib mg mb s.heap) (hh2 : A.handled = none) (hlist : s.heap.IsList ax ivs.toArray) (hints : IntsAre ivs ns) (hlen : ns.length ≤ 8)
    (F : At s.heap L (parFr (.ref ax) none none none none) h₁)
    (hQ : ∀ v h' tk, (∃ D, v = .ref D ∧ s.heap.get? D = none ∧ IsStrL h' D (drawnP ns)) → Ext s.heap h' → Q v (St s h' tk)) :
    wpAny (model P w) A (execs (fBody (stAt 25)) (envOf "_law_parts" (fScope (stAt 25)) L a cd)) (fun f s' => Q (match f with | .ret v => v | _ => .none) s') E (St s h₁ tk) := by
  have hlim : sizeLine = 16777216 := sizeLine_eq
  have nin : ∀ {a b : Addr}, a ≠ b → a ∉ [b] := fun hab q => hab (List.mem_singleton.mp q)
  conv => arg 3; arg 1; whnf
  -- pieces
  refine wpAny_execs_cons ?_
  generalize hE : Expr.List [_, _, _, _, _, _, _, _, _, _] _ = e₁
  refine ex_assignH F (V := fun v h' => ∃ D vs, v = .ref D ∧ h₁.get? D = none ∧ h'.get? D = some (lstObj vs 0) ∧ StrsAre vs (pieceL.map S)) ?_ (fun v h₁' h₂ k₂ hv e1' F2 kb2 => ?_) (hsw := by rw [← hE]; rfl)
  · subst hE
    exact ev_listS (xs := pieceL) (by
      unfold pieceL
      iterate 10 (refine ⟨ev_str, rfl, ?_⟩)
      exact trivial) (by rw [hlim]; decide)
  clear hE e₁
  obtain ⟨C, pvs, rfl, hC0, hC1, hpv⟩ := hv
  have hCL : C ≠ L := F.ne hC0
  have hC2 := kb2 _ _ (nin hCL) hC1
  have none_of : ∀ {q : Heap} {b : Addr}, Ext s.heap q → q.get? b = none → s.heap.get? b = none := fun {q b} e hb => by
    cases hq : s.heap.get? b with
    | none => rfl
    | some o => rw [e _ _ hq] at hb; cases hb
  have hCs := none_of F.ext hC0
  -- parts
  refine wpAny_execs_cons ?_
  generalize hE : Expr.List [_, _, _] _ = e₁
  refine ex_assignH F2 (V := fun v h' => ∃ D r1 r2 r3 vs1 vs3 g₀ g₁ g₂ g₃, Ext h₂ g₀ ∧ g₀.get? r1 = none ∧ g₁.get? r1 = some (lstObj vs1 0) ∧ StrsAre vs1 ([[63, 64, 90, 94, 96, 126, 127, 61, 32]].map S) ∧ Ext g₀ g₁ ∧ g₁.get? r2 = none ∧ g₂.get? r2 = some (lstObj [] 0) ∧ Ext g₁ g₂ ∧
      g₂.get? r3 = none ∧ g₃.get? r3 = some (lstObj vs3 0) ∧ StrsAre vs3 ([[61, 52, 61]].map S) ∧ Ext g₂ g₃ ∧ v = .ref D ∧ g₃.get? D = none ∧ Ext g₃ h' ∧ h'.get? D = some (lstObj [.ref r1, .ref r2, .ref r3] 0)) ?_ (fun v h₂' h₃ k₃ hv e2' F3 kb3 => ?_) (hsw := by rw [← hE]; rfl)
  · subst hE
    refine CoH.post (ev_list3H (V := fun g v g' => ∃ D vs, v = .ref D ∧ g.get? D = none ∧ g'.get? D = some (lstObj vs 0) ∧ StrsAre vs ([[63, 64, 90, 94, 96, 126, 127, 61, 32]].map S)) (V₂ := fun g v g' => ∃ D, v = .ref D ∧ g.get? D = none ∧ g'.get? D = some (lstObj [] 0)) (V₃ := fun g v g' => ∃ D vs, v = .ref D ∧ g.get? D = none ∧ g'.get? D = some (lstObj vs 0) ∧ StrsAre vs ([[61, 52, 61]].map S)) ?_ ?_ ?_) ?_
    · intro g e
      exact ev_listS (xs := [[63, 64, 90, 94, 96, 126, 127, 61, 32]]) ⟨add_str (a := [63, 64, 90, 94, 96]) (b := [126, 127, 61, 32]) (add_str (a := [63, 64, 90, 94]) (b := [96]) ev_str (ev_chr (c := 96) (ev_bi (hL'.keeps (F2.ext.trans e)) (by decide) boot_chr) ev_int (by decide)) (by rw [hlim]; decide)) ev_str (by rw [hlim]; decide), rfl, trivial⟩ (by rw [hlim]; decide)
    · intro g e
      exact ev_list0
    · intro g e
      exact ev_listS (xs := [[61, 52, 61]]) ⟨ev_str, rfl, trivial⟩ (by rw [hlim]; decide)
    · rintro v h' ⟨D, u, z, y, g₀, g₁, g₂, g₃, e0, ⟨r1, vs1, rfl, f1, o1, s1⟩, e1, ⟨r2, rfl, f2, o2⟩, e2, ⟨r3, vs3, rfl, f3, o3, s3⟩, e3, rfl, fD, eD, oD⟩
      exact ⟨D, r1, r2, r3, vs1, vs3, g₀, g₁, g₂, g₃, e0, f1, o1, s1, e1, f2, o2, e2, f3, o3, s3, e3, rfl, fD, eD, oD⟩
  clear hE e₁
  obtain ⟨D, r1, r2, r3, vs1, vs3, g₀, g₁, g₂, g₃, e0, f1, o1, s1, e1, f2, o2, e2, f3, o3, s3, e3, rfl, fD, eD, oD⟩ := hv
  have ne_of : ∀ {q : Heap} {a b : Addr} {o : Obj}, q.get? a = some o → q.get? b = none → b ≠ a := fun {q a b o} ha hb e => by rw [e, ha] at hb; cases hb
  obtain ⟨oL, hoL⟩ := F2.some
  have e02 : Ext h₂ g₁ := e0.trans e1
  have e03 : Ext h₂ g₂ := e02.trans e2
  have e04 : Ext h₂ g₃ := e03.trans e3
  have r1L : r1 ≠ L := ne_of (e0 _ _ hoL) f1
  have r2L : r2 ≠ L := ne_of (e02 _ _ hoL) f2
  have r3L : r3 ≠ L := ne_of (e03 _ _ hoL) f3
  have DL : D ≠ L := ne_of (e04 _ _ hoL) fD
  have r1C : r1 ≠ C := ne_of (e0 _ _ hC2) f1
  have r2C : r2 ≠ C := ne_of (e02 _ _ hC2) f2
  have r3C : r3 ≠ C := ne_of (e03 _ _ hC2) f3
  have DC : D ≠ C := ne_of (e04 _ _ hC2) fD
  have r21 : r2 ≠ r1 := ne_of o1 f2
  have r31 : r3 ≠ r1 := ne_of (e2 _ _ o1) f3
  have r32 : r3 ≠ r2 := ne_of o2 f3
  have D1 : D ≠ r1 := ne_of (e3 _ _ (e2 _ _ o1)) fD
  have D2 : D ≠ r2 := ne_of (e3 _ _ o2) fD
  have D3 : D ≠ r3 := ne_of o3 fD
  have q1 : h₃.get? r1 = some (lstObj vs1 0) := kb3 _ _ (nin r1L) (eD _ _ (e3 _ _ (e2 _ _ o1)))
  have q2 : h₃.get? r2 = some (lstObj [] 0) := kb3 _ _ (nin r2L) (eD _ _ (e3 _ _ o2))
  have q3 : h₃.get? r3 = some (lstObj vs3 0) := kb3 _ _ (nin r3L) (eD _ _ o3)
  have qD : h₃.get? D = some (lstObj [.ref r1, .ref r2, .ref r3] 0) := kb3 _ _ (nin DL) oD
  have qC : h₃.get? C = some (lstObj pvs 0) := kb3 _ _ (nin hCL) (e2' _ _ hC2)
  have z1 : s.heap.get? r1 = none := none_of (F2.ext.trans e0) f1
  have z2 : s.heap.get? r2 = none := none_of (F2.ext.trans e02) f2
  have z3 : s.heap.get? r3 = none := none_of (F2.ext.trans e03) f3
  have zD : s.heap.get? D = none := none_of (F2.ext.trans e04) fD
  have axl : ∀ {b : Addr}, s.heap.get? b = none → ax ≠ b := fun hb e => by
    obtain ⟨o, ho, _⟩ := hlist
    rw [e, hb] at ho; cases ho
  have hpn : partsP ns ≠ [] ∧ (partsP ns).length ≤ 3 + ns.length := parts_inv ns
  have hil : ivs.length = ns.length := by
    have : ∀ {vs : List Value} {ms : List Int}, IntsAre vs ms → vs.length = ms.length := by
      intro vs ms hi
      induction hi with
      | nil => rfl
      | cons _ _ _ ih => simp [ih]
    exact this hints
  have hitem : ∀ (i : Nat) (v : Value), ivs[i]? = some v → ∃ n t, v = Value.int n t ∧ ns[i]? = some n := by
    have : ∀ {vs : List Value} {ms : List Int}, IntsAre vs ms → ∀ (i : Nat) (v : Value), vs[i]? = some v → ∃ n t, v = Value.int n t ∧ ms[i]? = some n := by
      intro vs ms hi
      induction hi with
      | nil => intro i v h; simp at h
      | cons n t _ ih =>
        intro i v h
        cases i with
        | zero => simp at h; exact ⟨n, t, h.symm, rfl⟩
        | succ i => exact ih i v (by simpa using h)
    exact this hints
  -- for x in numbers
  refine wpAny_execs_cons (ex_forG (its := ivs) (fun I i q => (∃ o, At s.heap L (parFr (.ref ax) (some (.ref C)) (some (.ref D)) o none) q) ∧ q.get? C = some (lstObj pvs 0) ∧ PartsAt s.heap [L, D, C, I] D (partsP (ns.take i)) q) hh2 (ev_local (v := .ref ax) F3.ns rfl) (hlist.at fun o q => F3.ext _ o q) ?_ ?_ ?_ ?_)
  · intro I h' hI e' _
    refine ⟨⟨none, F3.up e'⟩, e' _ _ qC, PartsAt.up (q := h₃) ?_ e'⟩
    have rI : ∀ {r : Addr} {o : Obj}, h₃.get? r = some o → r ≠ I := fun ho e => by rw [e, hI] at ho; cases ho
    refine ⟨[r1, r2, r3], 0, qD, ?_, ?_, .cons ⟨_, _, q1, s1⟩ (.cons ⟨_, _, q2, .nil⟩ (.cons ⟨_, _, q3, s3⟩ .nil))⟩
    · simp [r21.symm, r31.symm, r32.symm]
    · intro r hr
      simp only [List.mem_cons, List.not_mem_nil, or_false] at hr ⊢
      rcases hr with rfl | rfl | rfl
      · exact ⟨by simp [r1L, D1.symm, r1C, rI q1], z1⟩
      · exact ⟨by simp [r2L, D2.symm, r2C, rI q2], z2⟩
      · exact ⟨by simp [r3L, D3.symm, r3C, rI q3], z3⟩
  · rintro I i q q' hI ⟨⟨o, G⟩, gC, gP⟩ kb
    have rI : ∀ {r : Addr} {o : Obj}, h₃.get? r = some o → r ∉ [I] := fun ho e => by rw [List.mem_singleton.mp e, hI] at ho; cases ho
    obtain ⟨o3', ho3'⟩ := F3.some
    exact ⟨⟨o, G.kb (rI ho3') (fun b hb => by rw [List.mem_singleton.mp hb]; exact none_of F3.ext hI) kb⟩, kb _ _ (rI qC) gC, gP.kb kb (rI qD) (by simp)⟩
  · rintro I i v q k E' hI hi hv ⟨⟨o, G⟩, gC, gP⟩ hit hls
    obtain ⟨n, tn, rfl, hn⟩ := hitem i v hv
    have rI : ∀ {r : Addr} {o : Obj}, h₃.get? r = some o → r ≠ I := fun ho e => by rw [e, hI] at ho; cases ho
    obtain ⟨o3', ho3'⟩ := F3.some
    have hstep : partsP (ns.take (i + 1)) = stepP (partsP (ns.take i)) n := by
      unfold partsP
      rw [List.take_add_one, hn, Option.toList_some, List.foldl_append]; rfl
    obtain ⟨hne, hpl⟩ := parts_inv (ns.take i)
    have hpl' : (partsP (ns.take i)).length ≤ 11 := by
      have := List.length_take_le i ns
      omega
    have hcnt : cntP (partsP (ns.take i)) ≤ 10 := by
      have := cntP_parts (ns.take i)
      have := List.length_take_le i ns
      omega
    rw [hstep]
    generalize partsP (ns.take i) = xss at *
    have rIn : ∀ {r : Addr}, r ≠ I → I ∉ [r] := fun hr z => hr (List.mem_singleton.mp z).symm
    have hLI : L ≠ I := rI ho3'
    have hDI : D ≠ I := rI qD
    have hCI : C ≠ I := rI qC
    have hI0 : s.heap.get? I = none := none_of F3.ext hI
    refine as_name G fun h₄ k₄ F4 kb4 => ?_
    have gC4 := kb4 _ _ (nin hCL) gC
    have kb4' : KB [L] q h₄ := kb4
    have gP4 := gP.kb kb4' (nin DL) (by simp)
    have hit4 := hit.at fun o e => kb4 _ o (nin (Ne.symm hLI)) e
    have hls4 := hls.at fun o e => kb4 _ o (nin (axl F.out)) e
    have F4' : At s.heap L (parFr (.ref ax) (some (.ref C)) (some (.ref D)) (some (.int n tn)) none) h₄ := F4
    let Mid : Shared → Prop := fun s₃ => ∃ h tk, s₃ = St s h tk ∧ At s.heap L (parFr (.ref ax) (some (.ref C)) (some (.ref D)) (some (.int n tn)) none) h ∧ h.get? C = some (lstObj pvs 0) ∧ PartsAt s.heap [L, D, C, I] D (growP xss n) h ∧ h.IsListIter I ax (i + 1) ∧ h.IsList ax ivs.toArray
    have lib4 := hL'.keeps F4'.ext
    obtain ⟨refs, m, hD4, nd4, out4, pp4⟩ := gP4
    have hrl : refs.length = xss.length := pLen pp4
    have lenp : ∀ {p₁ p₂ p₃ : Pos}, Ev w A (envOf "_law_parts" (fScope (stAt 25)) L a cd) h₄ (.Call (.Name (Str.ofString "len") p₁) [.Name (Str.ofString "parts") p₂] [] p₃) (IsI (xss.length : Int)) := fun {p₁ p₂ p₃} => by
      have := ev_lenL (w := w) (A := A) (env := envOf "_law_parts" (fScope (stAt 25)) L a cd) (pos := p₃) (px := p₁) (x := Str.ofString "len") (e := .Name (Str.ofString "parts") p₂) (ev_bi lib4 (by decide) boot_len) (ev_local (v := .ref D) F4'.ns rfl) (its := (refs.map Value.ref).toArray) ⟨_, hD4, rfl, m, rfl⟩ (by simp; omega)
      refine Co.post this fun v hv => ?_
      obtain ⟨t, rfl⟩ := hv
      exact ⟨t, by simp [hrl]⟩
    have evx : ∀ {q : Heap} {p : Pos}, At s.heap L (parFr (.ref ax) (some (.ref C)) (some (.ref D)) (some (.int n tn)) none) q → Ev w A (envOf "_law_parts" (fScope (stAt 25)) L a cd) q (.Name (Str.ofString "x") p) (IsI n) := fun {q p} G => ev_localI G.ns rfl
    refine wpAny_execs_cons (wpAny_mono (Q := fun f s₃ => f = .next ∧ Mid s₃) ?_ ?_ fun _ _ e => e)
    · have tst := True.intro --  (A := A) (pos := default) (te_eqI (pos := default) (lenp (p₁ := default) (p₂ := default) (p₃ := default)) (ev_int (i := 3) (k := 0) (pos := default))) fun _ => te_and (pos := default) (te_eqI (pos := default) (mod_i (pos := default) (evx (p := default) F4') (ev_int (i := 3) (k := 0) (pos := default)) (by decide)) (ev_int (i := 0) (k := 0) (pos := default))) fun _ => te_ltI (pos := default) (lenp (p₁ := default) (p₂ := default) (p₃ := default)) (ev_int (i := 6) (k := 0) (pos := default))
      by_cases hg : xss.length = 3 ∨ (n.fmod 3 = 0 ∧ xss.length < 6)
      · refine ex_ifT (te_or (te_eqI lenp ev_int) fun _ => te_and (te_eqI (mod_i (evx F4') ev_int (by decide)) ev_int) fun _ => te_ltI lenp ev_int) ?_ fun h₅ k₅ e5 => ?_
        · rw [Bool.or_eq_true, Bool.and_eq_true]
          rcases hg with q | ⟨q1, q2⟩
          · exact .inl (by simp; omega)
          · exact .inr ⟨by simpa using q1, by simp; omega⟩
        · have F5 := F4'.up e5
          refine wpAny_execs_cons (ex_appG (D := D) (its := refs.map .ref) (n := m) (ev_local (v := .ref D) F5.ns rfl) (e5 _ _ hD4) ev_list0 (by rw [hlim]; simp; omega) fun v h₆ h₇ k₇ hv e6 gD7 kb7 => wpAny_execs_nil ⟨rfl, h₇, k₇, rfl, ?_⟩)
          obtain ⟨r, rfl, hr5, hr6⟩ := hv
          have z5 : ∀ {b : Addr} {o : Obj}, h₄.get? b = some o → r ≠ b := fun hb e => by rw [e, e5 _ _ hb] at hr5; cases hr5
          obtain ⟨o4, ho4⟩ := F4'.some
          obtain ⟨oi, hoi, _⟩ := id hit4
          have gP7 := PartsAt.grow (h₀ := s.heap) (bad := [L, D, C, I]) nd4 out4 (pMono pp4 fun a b _ ⟨vs, m, e', hs⟩ => ⟨vs, m, e5 _ _ e', hs⟩) e6 hr5 hr6 kb7 gD7 (by
            simp only [List.mem_cons, List.not_mem_nil, or_false, not_or]
            exact ⟨z5 ho4, z5 hD4, z5 gC4, z5 hoi⟩) (none_of F5.ext hr5) (by simp)
          have e56 := e5.trans e6
          refine ⟨(F4'.up e56).app DL zD kb7, kb7 _ _ (nin (Ne.symm DC)) (e56 _ _ gC4), ?_, hit4.at fun o e => kb7 _ o (nin (Ne.symm hDI)) (e56 _ o e), hls4.at fun o e => kb7 _ o (nin (axl zD)) (e56 _ o e)⟩
          unfold growP
          rw [if_pos hg]
          exact gP7
      · refine ex_ifF (te_or (te_eqI lenp ev_int) fun _ => te_and (te_eqI (mod_i (evx F4') ev_int (by decide)) ev_int) fun _ => te_ltI lenp ev_int) ?_ fun h₅ k₅ e5 => wpAny_execs_nil ⟨rfl, h₅, k₅, rfl, ?_⟩
        · rw [Bool.eq_false_iff]
          intro q
          rw [Bool.or_eq_true, Bool.and_eq_true] at q
          refine hg ?_
          rcases q with q | ⟨q1, q2⟩
          · exact .inl (by simp at q; omega)
          · exact .inr ⟨by simpa using q1, by simp at q2; omega⟩
        · refine ⟨F4'.up e5, e5 _ _ gC4, ?_, hit4.at fun o e => e5 _ o e, hls4.at fun o e => e5 _ o e⟩
          unfold growP
          rw [if_neg hg]
          exact PartsAt.up ⟨refs, m, hD4, nd4, out4, pp4⟩ e5
    · rintro f s₃ ⟨rfl, h₆, k₆, rfl, F6, gC6, gP6, hit6, hls6⟩
      have hne6 := growP_ne (x := n) hne
      by_cases hx : n.fmod 3 = 0
      · refine wpAny_execs_cons (ex_ifF (te_neI (mod_i (evx F6) ev_int (by decide)) ev_int) (by simp [hx]) fun h₇ k₇ e7 => wpAny_execs_nil (wpAny_execs_nil ⟨.inl rfl, h₇, k₇, rfl, ⟨⟨_, F6.up e7⟩, e7 _ _ gC6, ?_⟩, hit6.at fun o e => e7 _ o e, hls6.at fun o e => e7 _ o e⟩))
        unfold stepP
        rw [if_neg (by simpa using hx)]
        exact gP6.up e7
      · refine wpAny_execs_cons (ex_ifT (te_neI (mod_i (evx F6) ev_int (by decide)) ev_int) (by simp [hx]) fun h₇ k₇ e7 => ?_)
        have F7 := F6.up e7
        have gC7 := e7 _ _ gC6
        have hstepP : stepP xss n = (growP xss n).dropLast ++ [(growP xss n).getLastD [] ++ [pieceOf n]] := by
          unfold stepP
          rw [if_pos hx]
        rw [hstepP]
        have hcg : cntP (growP xss n) ≤ 10 := by rw [cntP_grow]; exact hcnt
        generalize growP xss n = gss at *
        rcases List.eq_nil_or_concat gss with e | ⟨ys, last, e⟩
        · exact absurd e hne6
        · rw [List.concat_eq_append] at e
          subst e
          obtain ⟨refs6, m6, hD6, nd6, out6, pp6⟩ := gP6.up e7
          obtain ⟨pre, r, rfl, pp, vs, mr, hr7, hvs⟩ := pUnsnoc pp6
          have outr := (out6 r (by simp)).1
          simp only [List.mem_cons, List.not_mem_nil, or_false, not_or] at outr
          obtain ⟨rL, rD, rC, rIx⟩ := outr
          have zr := (out6 r (by simp)).2
          have lib7 := hL'.keeps F7.ext
          have hvl : vs.length = last.length := by rw [hvs.len_eq]; simp
          have hfd : (n.fdiv 3).fmod 10 ≠ 8 → pvs[((n.fdiv 3).fmod 10).toNat]? = some (pvs.getD ((n.fdiv 3).fmod 10).toNat .none) ∧ ∃ t, pvs.getD ((n.fdiv 3).fmod 10).toNat .none = .str (S (pieceOf n)) t := by
            intro h8
            have hat := piece_at h8
            generalize ((n.fdiv 3).fmod 10).toNat = kk at hat
            have hpl : pvs.length = 10 := by rw [hpv.len_eq]; rfl
            have hkl : kk < pieceL.length := by
              rcases Nat.lt_or_ge kk pieceL.length with q | q
              · exact q
              · rw [List.getElem?_eq_none q] at hat; cases hat
            have hkl' : kk < pvs.length := by rw [hpl]; exact hkl
            have e1 : pvs[kk]? = some pvs[kk] := List.getElem?_eq_getElem hkl'
            obtain ⟨y, t, e2, e3⟩ := hpv.item kk _ e1
            rw [List.getElem?_map, hat] at e3
            simp only [Option.map_some, Option.some.injEq] at e3
            refine ⟨by rw [List.getD_eq_getElem?_getD, e1]; rfl, t, ?_⟩
            rw [List.getD_eq_getElem?_getD, e1]
            show pvs[kk] = _
            rw [e2, ← e3]
          have h10 := Int.fmod_lt_of_pos (n.fdiv 3) (b := 10) (by omega)
          have h00 := Int.fmod_nonneg_of_pos (n.fdiv 3) (b := 10) (by omega)
          have h96 := Int.fmod_lt_of_pos (n.fdiv 30) (b := 96) (by omega)
          have h90 := Int.fmod_nonneg_of_pos (n.fdiv 30) (b := 96) (by omega)
          have nopy : ∀ b : Int, b.natAbs.log2 < 100 → Builtin.divisionGoesByPylong n b = false := fun b hb => PyProof.noPylong_of_log2 (by omega)
          refine wpAny_execs_cons (ex_appG (D := r) (its := vs) (n := mr) (V := fun v _ => IsS (pieceOf n) v) (ev_itemN (its := (pre ++ [r]).map Value.ref) (v := .ref r) (ev_local (v := .ref D) F7.ns rfl) ⟨_, hD6, rfl, m6, rfl⟩ (ev_neg ev_int) (by simp)) hr7 ?_ (by
            have : last.length ≤ cntP (ys ++ [last]) := by unfold cntP; simp
            omega) fun v h₈ h₉ k₉ hv e8 gr9 kb9 => wpAny_execs_nil (wpAny_execs_nil ⟨.inl rfl, h₉, k₉, rfl, ?_⟩))
          · refine ev_ifexp (te_neI (mod_i (div_i (evx F7) ev_int (by decide) (nopy 3 (by decide))) ev_int (by decide)) ev_int) (fun h8 => ?_) (fun h8 => ?_)
            · obtain ⟨e1, t, e2⟩ := hfd (by simpa using h8)
              refine Co.post (ev_itemL (its := pvs.toArray) (ev_local (v := .ref C) F7.ns rfl) ⟨_, gC7, rfl, 0, rfl⟩ (mod_i (div_i (evx F7) ev_int (by decide) (nopy 3 (by decide))) ev_int (by decide)) h00 (by omega) (by simpa using e1)) fun v hv => ?_
              rw [hv, ← List.getD_eq_getElem?_getD, e2]
              exact ⟨t, rfl⟩
            · have e8 : ¬ (n.fdiv 3).fmod 10 ≠ 8 := by
                rw [Bool.eq_false_iff] at h8
                simpa using h8
              have : pieceOf n = [32 + ((n.fdiv 30).fmod 96).toNat] ++ [32] := by
                unfold pieceOf
                rw [if_neg e8]
              rw [this]
              refine add_str (ev_chr (c := 32 + ((n.fdiv 30).fmod 96).toNat) (ev_bi lib7 (by decide) boot_chr) (Co.post (add_i ev_int (mod_i (div_i (evx F7) ev_int (by decide) (nopy 30 (by decide))) ev_int (by decide))) fun v hv => ?_) (by omega)) (ev_str (a := [32])) (by rw [hlim]; simp)
              obtain ⟨t, rfl⟩ := hv
              exact ⟨t, by congr 1; omega⟩
          · obtain ⟨tv, rfl⟩ := hv
            have e78 := e8
            have hdl : (ys ++ [last]).dropLast = ys := by simp
            have hgl : (ys ++ [last]).getLastD [] = last := by simp
            rw [hdl, hgl]
            refine ⟨⟨⟨_, (F7.up e78).app rL zr kb9⟩, kb9 _ _ (nin (Ne.symm rC)) (e78 _ _ gC7), ?_⟩, hit6.at fun o e => kb9 _ o (nin (Ne.symm rIx)) (e78 _ o (e7 _ o e)), hls6.at fun o e => kb9 _ o (nin (axl zr)) (e78 _ o (e7 _ o e))⟩
            exact PartsAt.addTo (e78 _ _ hD6) nd6 out6 (pMono pp fun a b _ ⟨vs, m, e', hs⟩ => ⟨vs, m, e78 _ _ e', hs⟩) hvs kb9 gr9 (by simp)
  · rintro I h' k' hI ⟨⟨o, G⟩, gC, gP⟩
    rw [hil, List.take_length] at gP
    obtain ⟨refs, m, hD', nd, out, pp⟩ := gP
    have hrl : refs.length = (partsP ns).length := pLen pp
    have hrefs : ∀ {q : Heap} {p : Pos}, Ext h' q → Ev w A (envOf "_law_parts" (fScope (stAt 25)) L a cd) q (.Name (Str.ofString "parts") p) (IsV (.ref D)) := fun {q p} e => ev_local (G.up e).ns rfl
    refine wpAny_execs_cons (ex_assignC (N := refs.length) (Pv := fun j v => ∃ r, refs[j]? = some r ∧ v = .ref r) (fun _ => true) (fun v y => IsS (txOf h' v ++ [10]) y) G
      (src_list (G := fun its => its = refs.map Value.ref) hh2 (fun s Q E hI hQ => hrefs (Ext.refl _) s Q E hI fun v q tk hv e => hQ v q tk ⟨D, refs.map Value.ref, hv, ⟨_, e _ _ (hI _ _ hD'), rfl, m, rfl⟩, rfl⟩ e) (fun its e => by rw [e]; simp) (fun its e i v hv => by
        rw [e, List.getElem?_map] at hv
        cases hq : refs[i]? with
        | none => rw [hq] at hv; cases hv
        | some r => rw [hq] at hv; exact ⟨r, rfl, (Option.some.inj hv).symm⟩)) (by rw [hlim, hrl]; omega) ?_ ?_ fun X ys vs h₄ k₄ hX0 hpl hlv hP hF G4 kb4 => ?_)
    · rintro C' h₄ m' i v E' s' he rfl hn hm hv
      exact wpAny_tests_nil ⟨rfl, s'.heap, s'.toks, rfl, fun _ _ e => e⟩
    · rintro C' h₄ m' i v he hn hm ⟨r, hr, rfl⟩ _
      obtain ⟨xs, hxs, tx⟩ := pAt pp hr
      have hmem : xs ∈ partsP ns := List.mem_of_getElem? hxs
      have hpl := part_len hmem
      rw [txOf_eq tx]
      obtain ⟨vs, n, e, hs⟩ := tx
      have hcn : xs.length ≤ 2 + ns.length := by
        refine Nat.le_trans ?_ (cntP_parts ns)
        unfold cntP
        obtain ⟨a, b, e⟩ := List.append_of_mem hmem
        rw [e]
        simp
        omega
      refine add_str (a := xs.flatten) (b := [10]) (ev_meth1 PySem.F.slot_str_join PySem.F.type_str_join (ev_str (a := [])) (ev_localM hn hm) ?_) (ev_str (a := [10])) (by rw [hlim]; show xs.flatten.length + 1 ≤ _; omega)
      rintro t _ rfl
      refine Co.post (co_join (sep := []) (xs := xs) ⟨vs, ⟨_, he _ _ e, rfl, n, rfl⟩, hs⟩ ?_) ?_
      · have : (xs.map (·.length)).sum = xs.flatten.length := by rw [List.length_flatten]
        rw [this]
        show xs.flatten.length + xs.length * 0 ≤ _
        omega
      · rw [joinL_nil]; exact fun v hv => hv
    · rw [List.filter_eq_self.mpr (fun _ _ => rfl)] at hF
      have hys : StrsAre ys.toList ((textsP ns).map S) := by
        have hlen1 : ys.toList.length = (textsP ns).length := by
          rw [← pLen hF, hlv, hrl]
          unfold textsP
          simp
        refine strs_of hlen1 fun j v hj => ?_
        obtain ⟨u, hu, hG⟩ := pAtR hF hj
        obtain ⟨r, hr, rfl⟩ := hP j u hu
        obtain ⟨xs, hxs, tx⟩ := pAt pp hr
        rw [txOf_eq tx] at hG
        obtain ⟨t, rfl⟩ := hG
        exact ⟨_, t, by unfold textsP; rw [List.getElem?_map, hxs]; rfl, rfl⟩
      have hysl : ys.toList.length = (textsP ns).length := by rw [hys.len_eq]; simp
      have htl : (textsP ns).length ≤ 11 := by unfold textsP; simp; omega
      have G4' : At s.heap L (parFr (.ref ax) (some (.ref C)) (some (.ref D)) o (some (.ref X))) h₄ := G4
      have hX : h₄.IsList X ys.toList.toArray := by rw [show ys.toList.toArray = ys by simp]; exact hpl.isList
      have lib4 := hL'.keeps G4'.ext
      obtain ⟨tl, hlast⟩ := strs_last hys (textsP_ne ns)
      have evX : ∀ {p : Pos}, Ev w A (envOf "_law_parts" (fScope (stAt 25)) L a cd) h₄ (.Name (Str.ofString "texts") p) (IsV (.ref X)) := fun {p} => ev_local G4'.ns rfl
      have hlnum : h₄.IsList ax ivs.toArray := hlist.at fun o q => G4'.ext _ o q
      have f2 := Int.fmod_lt_of_pos ns.sum (b := 2) (by omega)
      have f0 := Int.fmod_nonneg_of_pos ns.sum (b := 2) (by omega)
      have hll : ((textsP ns).getLastD []).length ≤ 13 + 2 * ns.length := by
        have hne := textsP_ne ns
        have : (textsP ns).getLastD [] ∈ textsP ns := by
          rw [List.getLastD_eq_getLast?, List.getLast?_eq_some_getLast hne]
          exact List.getLast_mem hne
        unfold textsP at this
        obtain ⟨q, hq, e⟩ := List.mem_map.mp this
        have hpl := part_len hq
        rw [show (textsP ns).getLastD [] = q.flatten ++ [10] from e.symm, List.length_append]
        show _ + 1 ≤ _
        omega
      refine wpAny_execs_cons (ex_retH (ev_addLH (G₁ := fun us => StrsAre us ((textsP ns).dropLast.map S)) (G := fun ws => StrsAre ws ([((textsP ns).getLastD []).dropLast ++ [endSign ns]].map S)) (CoH.post (ev_sliceL (G := fun its => its = ys.toList) (i := none) (j := some (-1)) (fun s Q E hI hQ => evX s Q E hI fun v q tk hv e => hQ v q tk ⟨X, ys.toList, hv, hX.at fun o z => e _ o (hI _ o z), rfl⟩ e) pt_none (pt_some (ev_neg ev_int)) ?_) ?_) (CoH.post (ev_list1 (V := IsS (((textsP ns).getLastD []).dropLast ++ [endSign ns])) ?_) ?_) ?_) fun v h₅ k₅ hv e5 => ?_)
      · rintro its rfl
        rw [hysl, hlim]; omega
      · rintro v q ⟨Y, its, rfl, hY, hYo, rfl⟩
        refine ⟨Y, ys.toList.dropLast, rfl, ⟨_, hYo, rfl, 0, ?_⟩, strs_dropLast hys⟩
        have := slicePick_butLast ys.toList.toArray 1 (by decide)
        rw [show (-((1 : Nat) : Int)) = -1 by rfl] at this
        rw [this]
        simp [List.dropLast_eq_take]
      · refine add_str (a := ((textsP ns).getLastD []).dropLast) (b := [endSign ns]) ?_ ?_ (by rw [hlim, List.length_dropLast]; show _ - 1 + 1 ≤ _; omega)
        · rw [← sl_last (textsP_last ns)]
          exact ev_slice (Co.post (ev_itemN (its := ys.toList) evX hX (ev_neg ev_int) hlast) fun v hv => ⟨tl, hv⟩) pt_none (pt_some (ev_neg ev_int)) (by rw [hlim]; omega)
        · refine ev_itemLH (G := fun its => ∃ t1 t2, its = [.str (S [10]) t1, .str (S [13]) t2]) (k := ns.sum.fmod 2) (CoH.post (ev_list2 (ev_str (a := [10])) (ev_str (a := [13]))) ?_) (mod_i (ev_sumL hh2 (ev_bi lib4 (by decide) (by decide +kernel : bootBuiltins "sum" = some (.builtin "sum"))) (ev_local (v := .ref ax) G4'.ns rfl) hlnum hints) ev_int (by decide)) f0 (by omega) ?_
          · rintro v q ⟨Y, u, z, rfl, ⟨t1, rfl⟩, ⟨t2, rfl⟩, _, hYo⟩
            exact ⟨Y, _, rfl, ⟨_, hYo, rfl, 0, rfl⟩, t1, t2, rfl⟩
          · rintro its ⟨t1, t2, rfl⟩
            rcases (by omega : ns.sum.fmod 2 = 0 ∨ ns.sum.fmod 2 = 1) with e | e
            · refine ⟨_, by rw [e]; rfl, ?_⟩
              unfold endSign
              rw [if_pos e]
              exact ⟨t1, rfl⟩
            · refine ⟨_, by rw [e]; rfl, ?_⟩
              unfold endSign
              rw [if_neg (by omega)]
              exact ⟨t2, rfl⟩
      · rintro v q ⟨Y, u, rfl, ⟨t, rfl⟩, _, hYo⟩
        exact ⟨Y, _, rfl, ⟨_, hYo, rfl, 0, rfl⟩, .cons _ _ .nil⟩
      · intro us ws h1 h2
        rw [h1.len_eq, h2.len_eq, hlim]
        simp
        omega
      · obtain ⟨Y, us, ws, rfl, hY0, hYl, h1, h2⟩ := hv
        refine hQ _ h₅ k₅ ⟨Y, rfl, none_of G4'.ext hY0, us ++ ws, hYl, ?_⟩ (G4'.ext.trans e5)
        exact strs_cat h1 h2
end
end Mine

/-! ### QV2 -/
open PySem PySem.W PyProof.Rows PySem.Calls
set_option Elab.async false
set_option maxRecDepth 100000
set_option maxHeartbeats 400000
set_option linter.unusedVariables false
namespace Mine
section
variable {w : World} {A : Around} {h : Heap} {mg mb : Str → Option Value}
theorem parts_spec {a ax : Addr} {ivs : List Value} {ns : List Int} (hL : Lib mg mb h) (hf : IsFn h a 25 "_law_parts" .none) (hr : A.depth + 20 < recursionLimit) (hh : A.handled = none) (hlist : h.IsList ax ivs.toArray) (hints : IntsAre ivs ns) (hlen : ns.length ≤ 8) :
    CoH w A (call (.ref a) [.ref ax]) h fun v h' => ∃ D, v = .ref D ∧ h.get? D = none ∧ IsStrL h' D (drawnP ns) := by
  intro s Q E hI hQ
  have hL' := hL.keeps hI
  refine fn_call (binds := [("numbers", .ref ax)]) (by omega) hL'.lim (hf.keeps hI) (fun _ _ _ _ _ _ => BindsTo.of_eq rfl) (by decide) (locs rfl) ?_
  intro L cd h₁ A' E' hns hx hLn hd hh'
  rw [fr_binds1 (r := [Str.ofString "pieces", Str.ofString "parts", Str.ofString "x", Str.ofString "texts"])] at hns
  have hlist' : s.heap.IsList ax ivs.toArray := hlist.at fun o q => hI _ o q
  have hA' : A'.handled = none := by rw [hh']; exact hh
  have F : At s.heap L (parFr (.ref ax) none none none none) h₁ := ⟨hns, hx, hLn⟩
  have hQ' : ∀ v h' tk, (∃ D, v = .ref D ∧ s.heap.get? D = none ∧ IsStrL h' D (drawnP ns)) → Ext s.heap h' → Q v (St s h' tk) := by
    rintro v h' tk ⟨D, e1, e2, e3⟩ he
    refine hQ v h' tk ⟨D, e1, ?_, e3⟩ he
    cases hq : h.get? D with
    | none => rfl
    | some o => rw [hI _ _ hq] at e2; cases e2
  have key := @parts_body w A' mg mb s L a ax cd ivs ns h₁ (s.toks + [(Str.ofString "numbers", Value.ref ax)].length) Q E' hL' hA' hlist' hints hlen F hQ'
  generalize execs (fBody (stAt 25)) (envOf "_law_parts" (fScope (stAt 25)) L a cd) = t at key ⊢
  exact key
end
end Mine

/-! ### U1 -/
open PySem PySem.W PyProof.Rows PySem.Calls
set_option Elab.async false
set_option maxRecDepth 100000
set_option maxHeartbeats 4000000
set_option linter.unusedVariables false
namespace Mine
/-! ## the top's run from a walk -/
theorem halt_before {den : Code → Sem PySem.Fin} {p : Program} {w : World} {o : Outcome} {s' : Shared} : ∀ (n : Nat) (s : Shared) (t : Thread), runN den p w n s t = .halted o s' → ∃ k s₁ t₁, runN den p w k s t = .running s₁ t₁ ∧ step den p w s₁ t₁ = .halt o s'
  | 0, s, t, h => by cases h
  | n + 1, s, t, h => by
    simp only [runN] at h
    cases hs : step den p w s t with
    | halt o₂ s₂ =>
      rw [hs] at h
      simp only at h
      injection h with h1 h2
      subst h1 h2
      exact ⟨0, s, t, rfl, hs⟩
    | go s₂ t₂ =>
      rw [hs] at h
      obtain ⟨k, s₁, t₁, h1, h2⟩ := halt_before n s₂ t₂ h
      exact ⟨k + 1, s₁, t₁, by simp only [runN, hs]; exact h1, h2⟩
noncomputable def GoodStep (b : Bool) (x : Step) : Prop := ∀ f s', x = .halt (.done f) s' → b = true
theorem good_go {b : Bool} {s : Shared} {t : Thread} : GoodStep b (.go s t) := fun _ _ e => Step.noConfusion e
theorem good_uns {b : Bool} {x : String} {s : Shared} : GoodStep b (.halt (.unsupported x) s) := fun _ _ e => by cases e
theorem good_stuck {b : Bool} {x : String} {s : Shared} : GoodStep b (.halt (.stuck x) s) := fun _ _ e => by cases e
theorem good_ended {b : Bool} {x : Ending} {s : Shared} : GoodStep b (.halt (.ended x) s) := fun _ _ e => by cases e
theorem good_unc {b : Bool} {x : Value} {s : Shared} : GoodStep b (finish (.uncaught x) s) := fun _ _ e => by
  unfold finish at e
  split at e <;> cases e
theorem good_ite {b : Bool} {c : Prop} [Decidable c] {x y : Step} (hx : GoodStep b x) (hy : GoodStep b y) : GoodStep b (if c then x else y) := by
  split
  · exact hx
  · exact hy
theorem good_step {den : Code → Sem PySem.Fin} {p : Program} {w : World} (s : Shared) (t : Thread) : GoodStep (through t) (step den p w s t) := by
  obtain ⟨heap, gens, drawn, toks, os⟩ := s
  obtain ⟨cur, code, pos, stack⟩ := t
  cases cur
  case pure f =>
    cases f
    · cases stack with
      | nil => exact fun _ _ _ => rfl
      | cons a r => cases a <;> exact good_go
    · exact good_go
  case raise e =>
    cases stack with
    | nil => exact good_unc
    | cons a r => cases a <;> exact good_go
  case unsupported => exact good_uns
  case register => exact good_uns
  case fork => exact good_uns
  case await => exact good_uns
  case finish => exact good_ite good_uns good_ended
  case update => exact good_ite good_go good_stuck
  case choose => exact good_ite good_stuck good_go
  case load a _ k =>
    delta step; dsimp only
    cases heap.get? a
    · exact good_stuck
    · exact good_go
  case genState g k =>
    delta step; dsimp only
    cases gens[g]?
    · exact good_stuck
    · exact good_go
  case resume g r l k =>
    delta step; dsimp only
    cases gens[g]? with
    | none => exact good_stuck
    | some q =>
      cases q
      case fresh =>
        cases r with
        | send v => cases v <;> exact good_go
        | throw e => exact good_go
      all_goals exact good_go
  case yield v g0 l kk =>
    delta step; dsimp only
    cases splitAtGen stack with
    | none => exact good_stuck
    | some q => exact good_go
  all_goals exact good_go
theorem through_of_halt {den : Code → Sem PySem.Fin} {p : Program} {w : World} {s s' : Shared} {t : Thread} {f : Flow} (h : step den p w s t = .halt (.done f) s') : through t = true := good_step s t f s' h
theorem top_ran {p : Program} {w : World} {t : Sem PySem.Fin} {s : Shared} {R : Shared → Prop} (hreg : s.asleep)
    (h : wpAny (model p w) callerA t (fun fin s' => ∃ f, fin = .done f ∧ (R s' ∧ s'.gens = #[])) (fun _ _ => False) s) :
    ∃ s₁, (∃ n t₁, schedN (denote table) p w n (.single s ⟨t, .builtin "claim.caller" {}, default, []⟩) = .running (.single s₁ t₁) ∧ through t₁ = true) ∧ s₁.heap.life = s.heap.life ∧ R s₁ := by
  obtain ⟨n, r, s', hn, hR, hg⟩ := (wp_iff_halts (M := model p w) (c := .builtin "claim.caller" {}) t (fun r s' => (∃ f, r = .ok f ∧ R s') ∧ s'.gens = #[]) default s).mp
    (Sem.wp_mono _ _ _ (fun _ _ _ x => finPost_mono (fun r s' hr => ⟨hr, leftWithCleanup_false_of_bare (by rw [hr.2]; intro g hg; simp at hg)⟩) x) (fun _ _ _ x => ⟨x, leftWithCleanup_false_of_bare (by rw [x.2]; intro g hg; simp at hg)⟩) _ _
      (wp_of_wpAny_done (R := fun r s' => (∃ f, r = .ok f ∧ R s') ∧ s'.gens = #[]) caller_in (wpAny_mono h (by rintro fin s' ⟨f, e, h1, h2⟩; exact ⟨f, e, ⟨f, rfl, h1⟩, h2⟩) (fun _ _ e => e.elim)) default))
  obtain ⟨f, rfl, hRs⟩ := hR
  obtain ⟨s'', hr, hf, hc⟩ := runNI_real (denote table) p w hn (outcomeOf_ends _)
  have hne : ∀ k s₂, runN (denote table) p w k s ⟨t, .builtin "claim.caller" {}, default, []⟩ ≠ .halted (.unsupported "lifetime:generator-with-cleanup-left-suspended") s₂ := by
    intro k s₂ hk
    have a := runN_mono (denote table) p w n k s _ _ s'' hr
    have b := runN_mono (denote table) p w k n s _ _ s₂ hk
    rw [Nat.add_comm, b] at a
    injection a with a1 _
    cases a1
  obtain ⟨k, s₁, t₁, h1, h2⟩ := halt_before n s _ hr
  have e1 : s'' = s₁ := step_halt_same (denote table) p w _ _ _ _ h2
  subst e1
  have hl := runN_life (denote table) p w hr
  have e2 : s'' = s' := Shared.eq_of_forget_eq' hf (by show Shared.NoSusp _; intro g hgg; rw [hg] at hgg; simp at hgg)
  subst e2
  refine ⟨s'', ⟨k, t₁, ?_, through_of_halt h2⟩, hl, hRs⟩
  rw [schedN_eq_runN (denote table) p w s _ hreg ⟨hc, hne⟩ k, h1]
  rfl
theorem behind_eq : behindTheImports P = P.main.body := rfl
theorem boot_mine : ∀ w : World, (importEnds treeTable (opening P) w 600 (start (opening P)).1 (start (opening P)).2).map (fun s => (s.heap, s.gens, s.drawn, s.toks)) = some (boot_heap w.params, #[], boot_drawn, boot_toks) := fun w => by kernel_rfl
theorem fence_eq : ∀ s, fenceModules? P s = some s := fun s => rfl
end Mine

/-! ### U2 -/
open PySem PySem.W PyProof.Rows PySem.Calls
set_option Elab.async false
set_option maxRecDepth 100000
set_option maxHeartbeats 4000000
set_option linter.unusedVariables false
namespace Mine
open Builtin Builtin.Str
noncomputable abbrev F02X : PySem.Str := ⟨#[61, 37, 48, 50, 88]⟩
theorem F02X_eq : Str.ofString "=%02X" = F02X := by decide +kernel
noncomputable def pf02 : Percent := { ljust := false, sign := false, blank := false, alt := false, zero := true, width := some 2, prec := none, type := 88 }
theorem key02 : ∀ c : Nat, c < 256 → (match percentField pf02 true (percentInt pf02 (decide ((c : Int) < 0)) ((Nat.toDigits 16 (c : Int).natAbs).map Char.toNat)) with
      | none => percentInt pf02 (decide ((c : Int) < 0)) ((Nat.toDigits 16 (c : Int).natAbs).map Char.toNat) | some laid => laid) = [hexC (c / 16), hexC (c % 16)] := by decide +kernel
theorem meets02X {t u : Tok} (c : Nat) (hc : c < 256) : Meets («str.__mod__» ⟨[.str F02X t, .int (c : Int) u], []⟩) (fun _ R s => ∀ t' k, R (.ok (.ret (.str ⟨[61, hexC (c / 16), hexC (c % 16)].toArray⟩ t'))) { s with toks := k }) := by
  k_dflt (
    apply KPc.meets_of
    intro _ _ _ _ _ _ hQ
    rw [KPc.entry_is]
    unfold Builtin.Str.percentFormat
    refine wpAny_bind (wpAny_isInstance (typeIs_int _ _ _) F.sub_int_tuple ?_)
    refine wpAny_bind (wpAny_of_eq (a := none) rfl ?_)
    refine wpAny_bind (wpAny_of_eq (KPc.fills _ _) ?_)
    kpc_if
    refine wpAny_bind (wpAny_pure ?_)
    refine wpAny_bind ?_
    rw [KPc.range_list]
    refine KPc.start ?_
    intro _ _
    refine KPc.turn ?_; kpc_check; (repeat kpc_if)
    refine wpAny_pure ?_; kpc_piece
    refine KPc.turn ?_; kpc_check; (repeat kpc_if)
    refine wpAny_bind ?_; refine wpAny_holding ?_; (repeat kpc_if)
    refine wpAny_bind (wpAny_of_eq (a := (c : Int)) rfl ?_); (repeat kpc_if)
    refine wpAny_pure ?_)
  have key := key02 c hc
  rename_i g₀
  show wpAny _ _ (match percentField pf02 true (percentInt pf02 (decide ((c : Int) < 0)) ((Nat.toDigits 16 (c : Int).natAbs).map Char.toNat)) with | none => _ | some laid => _) _ _ _
  have fin : ∀ w', KPc.Good w' (Str.ofString "=" ++ ⟨[hexC (c / 16), hexC (c % 16)].toArray⟩) (0 + (Str.ofString "=").length + PySem.Str.length ⟨[hexC (c / 16), hexC (c % 16)].toArray⟩) → KPc.Good w' ⟨[61, hexC (c / 16), hexC (c % 16)].toArray⟩ 3 := by
    intro w' g
    have e : Str.ofString "=" ++ ⟨[hexC (c / 16), hexC (c % 16)].toArray⟩ = (⟨[61, hexC (c / 16), hexC (c % 16)].toArray⟩ : PySem.Str) := by
      have e0 : Str.ofString "=" = (⟨[61].toArray⟩ : PySem.Str) := by decide +kernel
      rw [e0, S_app]; rfl
    rw [e] at g
    exact KPc.good_mono g (Nat.le_of_ble_eq_true rfl)
  cases hp : percentField pf02 true (percentInt pf02 (decide ((c : Int) < 0)) ((Nat.toDigits 16 (c : Int).natAbs).map Char.toNat)) with
  | none =>
    rw [hp] at key
    simp only at key
    k_dflt (
      refine wpAny_pure ?_
      refine KPc.after_add (y := ⟨[hexC (c / 16), hexC (c % 16)].toArray⟩) g₀ (by show (⟨(percentInt pf02 _ _).toArray⟩ : PySem.Str) = _; exact congrArg (fun l => (⟨List.toArray l⟩ : PySem.Str)) key) (KPc.obj_none (by first | rfl | exact ite_self _)) ?_
      intro w' g
      have g := fin w' g
      refine KPc.turn ?_; kpc_check; (repeat kpc_if)
      refine wpAny_pure ?_; kpc_if; exact KPc.finish_ok g (by decide) rfl hQ)
  | some laid =>
    rw [hp] at key
    simp only at key
    subst key
    k_dflt (
      refine wpAny_pure ?_
      refine KPc.after_add (y := ⟨[hexC (c / 16), hexC (c % 16)].toArray⟩) g₀ rfl (KPc.obj_none (by first | rfl | exact ite_self _)) ?_
      intro w' g
      have g := fin w' g
      refine KPc.turn ?_; kpc_check; (repeat kpc_if)
      refine wpAny_pure ?_; kpc_if; exact KPc.finish_ok g (by decide) rfl hQ)
section
variable {w : World} {A : Around} {h : Heap} {env : Env} {l r : Expr} {pos : Pos}
theorem ev_02X {x : PySem.Str} {k : Nat} {c : Nat} {p : Pos} (hx : x = F02X) (hr : Ev w A env h r (IsI c)) (hc : c < 256) : Ev w A env h (.BinOp (.Constant (.str x) k p) .Mod r pos) (IsS [61, hexC (c / 16), hexC (c % 16)]) := by
  refine ev_binop (Va := IsS [61, 37, 48, 50, 88]) (ev_str (a := [61, 37, 48, 50, 88]) hx) hr ?_
  rintro _ _ ⟨t, rfl⟩ ⟨u, rfl⟩
  refine Co.still fun s Q E hQ => KPc.mod_lit (X' := F02X) rfl ?_ (fun _ _ => meets02X c hc) fun t' k => hQ _ k ⟨t', rfl⟩
  have : c.log2 ≤ c := Nat.log2_le_self c
  show c.log2 < 1920
  omega
end
end Mine

/-! ### U3 -/
open PySem PySem.W PyProof.Rows PySem.Calls
set_option Elab.async false
set_option maxRecDepth 100000
set_option maxHeartbeats 4000000
set_option linter.unusedVariables false
namespace Mine
/-! ## the top: its names and what it has made -/
noncomputable def gl (m0 : Str → Option Value) (l : FrL) : Str → Option Value := fun x => match l.lookup x with | some o => o | none => m0 x
noncomputable def setO : FrL → Str → Option Value → FrL
  | [], x, v => [(x, v)]
  | (y, o) :: r, x, v => if x == y then (y, v) :: r else (y, o) :: setO r x v
theorem gl_cons (m0 : Str → Option Value) (y : Str) (o : Option Value) (r : FrL) (x : Str) : gl m0 ((y, o) :: r) x = if x == y then o else gl m0 r x := by
  unfold gl
  rw [List.lookup_cons]
  cases h : x == y <;> simp
theorem gl_setO (m0 : Str → Option Value) (l : FrL) (x : Str) (v : Option Value) : (fun y => if y = x then v else gl m0 l y) = gl m0 (setO l x v) := by
  funext y
  induction l with
  | nil =>
    unfold setO
    rw [gl_cons]
    by_cases h : y = x <;> simp [h]
  | cons p r ih =>
    obtain ⟨z, o⟩ := p
    unfold setO
    by_cases hxz : (x == z) = true
    · rw [if_pos hxz, gl_cons, gl_cons]
      have e := beq_iff_eq.mp hxz; subst e
      by_cases h : y = x <;> simp [h]
    · rw [if_neg hxz, gl_cons, gl_cons]
      by_cases h : y = z
      · subst h
        have : ¬ y = x := fun q => hxz (by simp [q])
        simp [this]
      · simp only [beq_iff_eq, h, if_false]
        exact ih
/-- what stands from the start on -/
structure TB (m0 mb : Str → Option Value) (h₀ : Heap) (c Pl : Addr) : Prop where
  bm : ∃ bm o, m0 "__builtins__" = some (.ref bm) ∧ bm ≠ builtinsNs ∧ bm ≠ mainGlobals ∧ bm ≠ Pl ∧ h₀.get? bm = some o ∧ o.cls = .type "module" ∧ o.dict = some builtinsNs ∧ o.data = .plain
  b : h₀.Ns builtinsNs mb
  pl : h₀.get? Pl = none
  cc : h₀.get? c = none
  low : mainGlobals < c ∧ mainGlobals < Pl
noncomputable abbrev Fs := List (Addr × Obj)
structure TA (m0 : Str → Option Value) (h₀ : Heap) (c Pl : Addr) (ps : Array Value) (l : FrL) (fs : Fs) (h : Heap) : Prop where
  g : h.Ns mainGlobals (gl m0 l)
  code : h.IsCode c Pl ps
  kb : KB [mainGlobals] h₀ h
  nb : gl m0 l "__builtins__" = m0 "__builtins__"
  kept : ∀ p ∈ fs, h.get? p.1 = some p.2
  out : ∀ p ∈ fs, p.1 ≠ mainGlobals ∧ p.1 ≠ c ∧ p.1 ≠ Pl ∧ h₀.get? p.1 = none
section
variable {m0 mb : Str → Option Value} {h₀ h h' : Heap} {c Pl : Addr} {ps : Array Value} {l : FrL} {fs : Fs}
theorem TA.main (T : TA m0 h₀ c Pl ps l fs h) (B : TB m0 mb h₀ c Pl) : h.Main (gl m0 l) c Pl ps := by
  obtain ⟨bm, o, b1, b2, b3, b4, b5, b6⟩ := B.bm
  exact ⟨T.g, T.code, B.low, bm, o, T.nb.trans b1, b2, b3, b4, T.kb _ _ (by simpa using b3) b5, b6⟩
theorem TA.up (T : TA m0 h₀ c Pl ps l fs h) (e : Ext h h') : TA m0 h₀ c Pl ps l fs h' :=
  ⟨T.g.keeps e, T.code.keeps e, T.kb.trans (KB.of_ext e), T.nb, fun p hp => e _ _ (T.kept p hp), T.out⟩
theorem TA.lt (T : TA m0 h₀ c Pl ps l fs h) {D : Addr} (hD : h.get? D = none) : D ≠ mainGlobals ∧ D ≠ c ∧ D ≠ Pl ∧ D ∉ fs.map (·.1) := by
  refine ⟨fun e => ?_, fun e => ?_, fun e => ?_, fun e => ?_⟩
  · obtain ⟨o, _, _, q, _⟩ := T.g; rw [e, q] at hD; cases hD
  · obtain ⟨o, vs, file, tf, flags, tg, inF, text, tt, op, q, _⟩ := T.code; rw [e, q] at hD; cases hD
  · obtain ⟨o, vs, file, tf, flags, tg, inF, text, tt, op, _, _, _, _, _, _, _, q, _⟩ := T.code; rw [e, q] at hD; cases hD
  · obtain ⟨p, hp, e⟩ := List.mem_map.mp e
    rw [← e, T.kept p hp] at hD; cases hD
theorem TA.fresh0 (T : TA m0 h₀ c Pl ps l fs h) {D : Addr} (hD : h.get? D = none) : h₀.get? D = none := by
  cases hq : h₀.get? D with
  | none => rfl
  | some o => rw [T.kb _ _ (by simpa using (T.lt hD).1) hq] at hD; cases hD
/-- a new object -/
theorem TA.add (T : TA m0 h₀ c Pl ps l fs h) {D : Addr} {o : Obj} {hb : Heap} (hD : hb.get? D = none) (T₀ : TA m0 h₀ c Pl ps l fs hb) (e : h.get? D = some o) : TA m0 h₀ c Pl ps l ((D, o) :: fs) h := by
  obtain ⟨a1, a2, a3, a4⟩ := T₀.lt hD
  refine ⟨T.g, T.code, T.kb, T.nb, ?_, ?_⟩
  · intro p hp
    rcases List.mem_cons.mp hp with rfl | hp
    · exact e
    · exact T.kept p hp
  · intro p hp
    rcases List.mem_cons.mp hp with rfl | hp
    · exact ⟨a1, a2, a3, T₀.fresh0 hD⟩
    · exact T.out p hp
theorem TA.swap {a b : Addr × Obj} (T : TA m0 h₀ c Pl ps l (a :: b :: fs) h) : TA m0 h₀ c Pl ps l (b :: a :: fs) h := by
  refine ⟨T.g, T.code, T.kb, T.nb, fun p hp => T.kept p ?_, fun p hp => T.out p ?_⟩
  · simp only [List.mem_cons] at hp ⊢; rcases hp with h | h | h <;> simp [h]
  · simp only [List.mem_cons] at hp ⊢; rcases hp with h | h | h <;> simp [h]
theorem TA.drop {a : Addr × Obj} (T : TA m0 h₀ c Pl ps l (a :: fs) h) : TA m0 h₀ c Pl ps l fs h :=
  ⟨T.g, T.code, T.kb, T.nb, fun p hp => T.kept p (by simp [hp]), fun p hp => T.out p (by simp [hp])⟩
/-- the first object written -/
theorem TA.wrote {D : Addr} {o o' : Obj} (T : TA m0 h₀ c Pl ps l ((D, o) :: fs) h) (hne : D ∉ fs.map (·.1)) (k : KB [D] h h') (e : h'.get? D = some o') : TA m0 h₀ c Pl ps l ((D, o') :: fs) h' := by
  obtain ⟨a1, a2, a3, a4⟩ := T.out (D, o) (by simp)
  have n1 : ∀ {b : Addr}, D ≠ b → b ∉ [D] := fun n q => n (List.mem_singleton.mp q).symm
  refine ⟨T.g.at' fun o q => k _ o (n1 a1) q, ?_, ?_, T.nb, ?_, ?_⟩
  · obtain ⟨o, vs, file, tf, flags, tg, inF, text, tt, op, q1, r1, r2, r3, r4, r5, r6, q2, r⟩ := T.code
    exact ⟨o, vs, file, tf, flags, tg, inF, text, tt, op, k _ _ (n1 a2) q1, r1, r2, r3, r4, r5, r6, k _ _ (n1 a3) q2, r⟩
  · intro b ob hb e
    exact k _ _ (n1 fun q => by rw [← q, a4] at e; cases e) (T.kb b ob hb e)
  · intro p hp
    rcases List.mem_cons.mp hp with rfl | hp
    · exact e
    · exact k _ _ (n1 fun q => hne (List.mem_map.mpr ⟨p, hp, q.symm⟩)) (T.kept p (by simp [hp]))
  · intro p hp
    rcases List.mem_cons.mp hp with rfl | hp
    · exact ⟨a1, a2, a3, a4⟩
    · exact T.out p (by simp [hp])
/-- an object that no fact names written -/
theorem TA.aside {I : Addr} {hb : Heap} (T : TA m0 h₀ c Pl ps l fs h) (hI : I ≠ mainGlobals ∧ I ≠ c ∧ I ≠ Pl ∧ I ∉ fs.map (·.1)) (h0 : h₀.get? I = none) (k : KB [I] h h') : TA m0 h₀ c Pl ps l fs h' := by
  obtain ⟨a1, a2, a3, a4⟩ := hI
  have n1 : ∀ {b : Addr}, I ≠ b → b ∉ [I] := fun n q => n (List.mem_singleton.mp q).symm
  refine ⟨T.g.at' fun o q => k _ o (n1 a1) q, ?_, ?_, T.nb, ?_, T.out⟩
  · obtain ⟨o, vs, file, tf, flags, tg, inF, text, tt, op, q1, r1, r2, r3, r4, r5, r6, q2, r⟩ := T.code
    exact ⟨o, vs, file, tf, flags, tg, inF, text, tt, op, k _ _ (n1 a2) q1, r1, r2, r3, r4, r5, r6, k _ _ (n1 a3) q2, r⟩
  · intro b ob hb e
    exact k _ _ (n1 fun q => by rw [← q, h0] at e; cases e) (T.kb b ob hb e)
  · intro p hp
    exact k _ _ (n1 fun q => a4 (List.mem_map.mpr ⟨p, hp, q.symm⟩)) (T.kept p hp)
/-- a name bound -/
theorem TA.bound {x : Str} {v : Option Value} (T : TA m0 h₀ c Pl ps l fs h) (B : TB m0 mb h₀ c Pl) (hn : h'.Ns mainGlobals fun y => if y = x then v else gl m0 l y) (hs : Heap.SameBut mainGlobals h h') (hx : x ≠ "__builtins__") : TA m0 h₀ c Pl ps (setO l x v) fs h' := by
  have k : KB [mainGlobals] h h' := KB.of_same (by simp) hs
  refine ⟨by rw [← gl_setO]; exact hn, T.code.sameBut hs (Nat.ne_of_gt B.low.1) (Nat.ne_of_gt B.low.2), T.kb.trans k, ?_, fun p hp => k _ _ (by simpa using (T.out p hp).1) (T.kept p hp), T.out⟩
  rw [← gl_setO]
  simp only [Ne.symm hx, if_false]
  exact T.nb
end
section
variable {m0 mb : Str → Option Value} {h₀ hp : Heap} {c Pl F : Addr} {ps : Array Value} {l : FrL} {fs : Fs} {w : World} {A : Around} {s : Shared} {tk₀ : Nat} {E : Value → Shared → Prop} {Q : Flow → Shared → Prop} {pos px p₁ p₂ p₃ p₄ p₅ p₆ : Pos} {x : Str} {e : Expr}
theorem ev_mod {v : Value} (T : TA m0 h₀ c Pl ps l fs hp) (hv : gl m0 l x = some v) (hd : (x == ("__debug__" : Str)) = false := by rfl) : Ev w A (mainEnv P c F) hp (.Name x pos) (IsV v) :=
  fun s _ _ e hQ => Name_module rfl rfl (loadGlobal_global (env := mainEnv P c F) (T.g.keeps e) hv (hQ v s.heap s.toks rfl (Ext.refl _))) hd
theorem ev_modS {a : List Nat} {t : Tok} (T : TA m0 h₀ c Pl ps l fs hp) (hv : gl m0 l x = some (.str ⟨a.toArray⟩ t)) (hd : (x == ("__debug__" : Str)) = false := by rfl) : Ev w A (mainEnv P c F) hp (.Name x pos) (IsS a) :=
  (ev_mod T hv hd).post fun v e => ⟨t, e⟩
theorem ev_modB {v : Value} (B : TB m0 mb h₀ c Pl) (T : TA m0 h₀ c Pl ps l fs hp) (hv : gl m0 l x = none) (hb : mb x = some v) (hd : (x == ("__debug__" : Str)) = false := by rfl) : Ev w A (mainEnv P c F) hp (.Name x pos) (IsV v) :=
  fun s _ _ e hQ => Name_module rfl rfl (loadGlobal_builtin (env := mainEnv P c F) (T.g.keeps e) hv ((B.b.at' fun o q => T.kb _ o (by decide) q).keeps e) hb (hQ v s.heap s.toks rfl (Ext.refl _))) hd
theorem tx_assign {V : Value → Heap → Prop} (B : TB m0 mb h₀ c Pl) (T : TA m0 h₀ c Pl ps l fs hp) (he : EvH w A (mainEnv P c F) hp e V)
    (k : ∀ v h₁ h' tk, V v h₁ → Ext hp h₁ → TA m0 h₀ c Pl ps (setO l x (some v)) fs h' → KB [mainGlobals] h₁ h' → Q .next (St s h' tk))
    (hnb : x ≠ "__builtins__" := by decide) (hl : (mainEnv P c F).kindOf x = some .local := by rfl) (hsw : swapsWith e (some (.Name x px)) pos.line (mainEnv P c F) = pure false := by rfl) :
    wpAny (model P w) A (exec (.Assign [.Name x px] e pos) (mainEnv P c F)) Q E (St s hp tk₀) := by
  refine wpAny_Assign_Name (CoH.use he (Ext.refl _) fun v h₁ k₁ hv e₁ => ?_) hsw
  refine wpAny_storeName_local (s := St s h₁ k₁) (env := mainEnv P c F) hl (T.up e₁).g (fun h' hn hs => ?_) rfl
  exact k v h₁ h' _ hv e₁ ((T.up e₁).bound B hn hs hnb) (KB.of_same (L := mainGlobals) (by simp) hs)
theorem as_mod {Q : Unit → Shared → Prop} {v : Value} (B : TB m0 mb h₀ c Pl) (T : TA m0 h₀ c Pl ps l fs hp)
    (k : ∀ h' tk, TA m0 h₀ c Pl ps (setO l x (some v)) fs h' → KB [mainGlobals] hp h' → Q () (St s h' tk))
    (hnb : x ≠ "__builtins__" := by decide) (hl : (mainEnv P c F).kindOf x = some .local := by rfl) : wpAny (model P w) A (assign (.Name x px) (mainEnv P c F) v) Q E (St s hp tk₀) :=
  wpAny_assign_Name (wpAny_storeName_local (s := St s hp tk₀) (env := mainEnv P c F) hl T.g (fun h' hn hs => k h' _ (T.bound B hn hs hnb) (KB.of_same (L := mainGlobals) (by simp) hs)) rfl)
theorem tx_del {v : Value} (B : TB m0 mb h₀ c Pl) (T : TA m0 h₀ c Pl ps l fs hp) (hv : gl m0 l x = some v)
    (k : ∀ u h' tk, TA m0 h₀ c Pl ps (setO l x u) fs h' → Q .next (St s h' tk))
    (hnb : x ≠ "__builtins__" := by decide) (hl : (mainEnv P c F).kindOf x = some .local := by rfl) :
    wpAny (model P w) A (exec (.Delete [.Name x px] pos) (mainEnv P c F)) Q E (St s hp tk₀) := by
  refine wpAny_Delete (wpAny_deleteEach_cons (wpAny_delete_Name (wpAny_unbindName_local (s := St s hp tk₀) (env := mainEnv P c F) hl T.g hv rfl fun h' u hn hs => wpAny_deleteEach_nil ?_)))
  exact k u h' tk₀ (T.bound B hn hs hnb)
/-- a table of texts -/
noncomputable def IsTab (o : Obj) (f : Nat → List Nat) : Prop := ∃ (items : Array Value) (n : Nat), o.cls = .type "list" ∧ o.data = .seq items n ∧ items.size = 256 ∧ ∀ c, c < 256 → ∃ t, items[c]? = some (.str ⟨(f c).toArray⟩ t)
theorem IsTab.list {D : Addr} {o : Obj} {f : Nat → List Nat} {h : Heap} (x : IsTab o f) (e : h.get? D = some o) : ∃ items : Array Value, h.IsList D items ∧ items.size = 256 ∧ ∀ c, c < 256 → ∃ t, items[c]? = some (.str ⟨(f c).toArray⟩ t) :=
  let ⟨items, n, a, b, c, d⟩ := x; ⟨items, ⟨o, e, a, n, b⟩, c, d⟩
theorem IsTab.of {D : Addr} {f : Nat → List Nat} {h : Heap} {items : Array Value} (x : h.IsList D items) (hz : items.size = 256) (hf : ∀ c, c < 256 → ∃ t, items[c]? = some (.str ⟨(f c).toArray⟩ t)) : ∃ o, h.get? D = some o ∧ IsTab o f :=
  let ⟨o, a, b, n, d⟩ := x; ⟨o, a, items, n, b, d, hz, hf⟩
theorem tx_set {i : Expr} {d : Str} {D : Addr} {o : Obj} {f : Nat → List Nat} {k₀ : Nat} {a : List Nat} (B : TB m0 mb h₀ c Pl) (T : TA m0 h₀ c Pl ps l ((D, o) :: fs) hp) (hd : gl m0 l d = some (.ref D)) (tab : IsTab o f) (hne : D ∉ fs.map (·.1)) (hk : k₀ < 256)
    (hi : Ev w A (mainEnv P c F) hp i (IsI k₀)) (he : Ev w A (mainEnv P c F) hp e (IsS a))
    (k : ∀ o' h' tk, TA m0 h₀ c Pl ps l ((D, o') :: fs) h' → IsTab o' (fun j => if j = k₀ then a else f j) → KB [D] hp h' → Q .next (St s h' tk))
    (hs : swapsWith e (some (.Subscript (.Name d p₁) i p₂)) pos.line (mainEnv P c F) = pure false := by rfl) (hdd : (d == ("__debug__" : Str)) = false := by rfl) :
    wpAny (model P w) A (exec (.Assign [.Subscript (.Name d p₁) i p₂] e pos) (mainEnv P c F)) Q E (St s hp tk₀) := by
  refine wpAny_Assign_Subscript (Co.use he (Ext.refl _) fun v h₁ k₁ hv e₁ => ?_) hs
  refine Co.use (ev_mod T hd hdd) e₁ fun dv h₂ k₂ hdv e₂ => ?_
  subst hdv
  refine Co.use hi (e₁.trans e₂) fun iv h₃ k₃ hiv e₃ => ?_
  obtain ⟨ti, rfl⟩ := hiv
  obtain ⟨tv, rfl⟩ := hv
  have e123 := (e₁.trans e₂).trans e₃
  have T₃ := T.up e123
  obtain ⟨items, hl, hz, hf⟩ := tab.list (T₃.kept (D, o) (by simp))
  refine wpAny_setItem_list (s := St s h₃ k₃) hl (by omega) (by omega) (by omega) fun h' hl' hs' => ?_
  obtain ⟨o', ho', tab'⟩ := IsTab.of (f := fun j => if j = k₀ then a else f j) hl' (by simpa using hz) (fun j hj => by
    have hk0 : (k₀ : Int).toNat = k₀ := by omega
    rw [hk0]
    by_cases e : j = k₀
    · subst e
      exact ⟨tv, by rw [Array.getElem?_setIfInBounds_self_of_lt (by omega), if_pos rfl]⟩
    · obtain ⟨t, ht⟩ := hf j hj
      exact ⟨t, by rw [Array.getElem?_setIfInBounds_ne (Ne.symm e), if_neg e]; exact ht⟩)
  have kb : KB [D] h₃ h' := KB.of_same (by simp) hs'
  exact k o' h' k₃ (T₃.wrote hne kb ho') tab' ((KB.of_ext e123).trans kb)
/-- a for over bytes -/
theorem ex_forB {env : Env} {body : List Stmt} {bs : List UInt8} (J : Nat → Heap → Prop) (ws : List Addr) (hh : A.handled = none)
    (hit : Ev w A env hp e fun v => ∃ t, v = .bytes bs.toArray t) (hws : ∀ b ∈ ws, ∃ o, hp.get? b = some o)
    (h0 : ∀ h', Ext hp h' → J 0 h') (hJ : ∀ I i h h', hp.get? I = none → J i h → KB [I] h h' → J i h')
    (step : ∀ i b u h tk E', bs[i]? = some b → J i h → wpAny (model P w) A (assign (.Name x px) env (.int ((b.toNat : Nat) : Int) u)) (fun _ s₂ => wpAny (model P w) A (execs body env)
      (fun f s₃ => (f = .next ∨ f = .cont) ∧ ∃ h₃ tk₃, s₃ = St s h₃ tk₃ ∧ J (i + 1) h₃ ∧ KB ws h h₃) E' s₂) E' (St s h tk))
    (done : ∀ h' tk, J bs.length h' → Q .next (St s h' tk))
    (hs : ∀ x, foldedSetIterable e env x = pure x := by intro _; rfl) :
    wpAny (model P w) A (exec (.For (.Name x px) e body [] pos) env) Q E (St s hp tk₀) := by
  refine wpAny_For (Co.use hit (Ext.refl _) fun v h₁ k₁ hv e₁ => ?_) hs
  obtain ⟨t, rfl⟩ := hv
  refine KBw.pyIter_bytes (s := St s h₁ k₁) ?_
  show codeAny _ _ _ _ (St s (h₁.push _) k₁)
  have hI1 : h₁.get? h₁.objs.size = none := fresh_size (Ext.refl _)
  have hIs : (St s h₁ k₁).heap.objs.size = h₁.objs.size := rfl
  rw [hIs]
  generalize hIe : h₁.objs.size = I at *
  have hI0 : hp.get? I = none := by
    cases hq : hp.get? I with
    | none => rfl
    | some o => rw [e₁ _ _ hq] at hI1; cases hI1
  have hIw : I ∉ ws := fun q => by
    obtain ⟨o, ho⟩ := hws I q
    rw [hI0] at ho; cases ho
  have W := KBw.walks (prog := P) (w := w) (A := A) hh I bs.toArray t
  have hsz : bs.toArray.size = bs.length := List.size_toArray
  refine codeAny_forLoop (fun k s' => ∃ h tk i, s' = St s h tk ∧ KBw.IsBytesIter h I bs.toArray t i ∧ J i h ∧ i ≤ bs.length ∧ k = bs.length + 1 - i) ?_ (bs.length + 1) ?_
  · rintro k s' ⟨h, tk, i, rfl, hi1, hj, hle, rfl⟩
    by_cases hlt : i < bs.length
    · refine W.item i _ _ _ (by rw [hsz]; exact hlt) hi1 fun v h₂ k₂ hP hst hk => ?_
      obtain ⟨b, u, hb, rfl⟩ := hP
      have hb' : bs[i]? = some b := by simpa using hb
      have kb : KB [I] h h₂ := fun b o hb e => hk b o hb e
      refine wpAny_mono (step i b u h₂ k₂ _ hb' (hJ I i h h₂ hI0 hj kb)) (fun _ s₂ hs₂ => wpAny_mono hs₂ ?_ fun _ _ e => e) fun _ _ e => e
      rintro f s₃ ⟨hfl, h₃, tk₃, rfl, hj₃, hk₃⟩
      have fin : ∃ m, m < bs.length + 1 - i ∧ ∃ h tk i, (St s h₃ tk₃) = St s h tk ∧ KBw.IsBytesIter h I bs.toArray t i ∧ J i h ∧ i ≤ bs.length ∧ m = bs.length + 1 - i :=
        ⟨bs.length + 1 - (i + 1), by omega, h₃, tk₃, i + 1, rfl, W.frame _ _ _ hst (fun b hb o e => hk₃ _ o (by rw [List.mem_singleton.mp hb]; exact hIw) e), hj₃, hlt, rfl⟩
      rcases hfl with rfl | rfl
      · exact fin
      · exact fin
    · have hie : i = bs.length := by omega
      subst hie
      refine W.done (St s h tk) _ _ (by rw [hsz]; exact hi1) fun h₂ k₂ hk => ?_
      exact wpAny_execs_nil (done h₂ k₂ (hJ I _ h h₂ hI0 hj fun b o hb e => hk b o hb e))
  · refine ⟨_, _, 0, rfl, ?_, h0 _ (e₁.trans (Ext.push _ _)), Nat.zero_le _, rfl⟩
    exact ⟨_, by rw [← hIe]; exact Heap.get?_push_size _ rfl, rfl, rfl⟩
end
end Mine

/-! ### U4 -/
open PySem PySem.W PyProof.Rows PySem.Calls
set_option Elab.async false
set_option maxRecDepth 100000
set_option maxHeartbeats 4000000
set_option linter.unusedVariables false
namespace Mine
section
open Builtin
theorem onew : «object.__new__» ⟨[.type "object"], []⟩ = (newObj (.type "object") .plain >>= fun v => ret v) := by kernel_rfl
theorem mro_ob : mroOf (.type "object") = pure [.type "object"] := by rw [mroOf_type]; kernel_rfl
theorem lookup_ob : typeLookup (.type "object") "__new__" = pure (some (.builtin "object.__new__")) := by rw [typeLookup_type, builtinLookup_eq_fast]; kernel_rfl
theorem slot_ob_init : Slot "object" "__init__" "object.__init__" :=
  .of (owner := "object") (n := "__init__") (by rw [typeLookup_type, builtinLookup_eq_fast]; kernel_rfl) (by decide +kernel) (by decide +kernel) (by decide +kernel)
    (by first | exact .inl (by decide +kernel) | exact .inr (by decide +kernel)) (by rw [isSubtype_type]; kernel_rfl)
theorem called_object : TypeCalled "object" "object.__new__" "object.__init__" :=
  ⟨by decide +kernel, by decide +kernel, ⟨_, _, mro_ob⟩, madeBy_type mro_ob lookup_ob (by decide +kernel), by decide +kernel, by rw [isSubtype_type]; kernel_rfl, slot_ob_init⟩
section
variable {prog : Program} {w : World} {A : Around} {E : Value → Shared → Prop} {s : Shared}
theorem call_object {Q : Value → Shared → Prop} (h : Q (.ref s.heap.objs.size) { s with heap := s.heap.push { cls := .type "object" } }) : wpAny (model prog w) A (call (.type "object") []) Q E s := by
  have m : Meets («object.__new__» ⟨[.type "object"], []⟩) (fun _ R s => R (.ok (.ret (.ref s.heap.objs.size))) { s with heap := s.heap.push { cls := .type "object" } }) := by
    rw [onew]
    exact Meets.of_wp fun prog w A R s hs => wpAny_bind (wpAny_newObj_type (wpAny_pure ⟨_, rfl, hs⟩))
  refine callType_meets (Q₁ := fun v s' => v = .ref s.heap.objs.size ∧ s' = { s with heap := s.heap.push { cls := .type "object" } }) called_object (by kernel_rfl) (by kernel_rfl) F.entry_object_new F.entry_object_init m ⟨rfl, rfl⟩ ?_
  rintro obj s₁ ⟨rfl, rfl⟩
  refine ⟨⟨_, Heap.get?_push_size _ rfl, rfl⟩, F.args_object_init_1 _, fun _ R s => R (.ok (.ret .none)) s, ?_, rfl, h⟩
  exact Meets.of_wp fun prog w A R s hs => wpAny_pure ⟨_, rfl, hs⟩
end

end
theorem IsTab.congr {o : Obj} {f g : Nat → List Nat} (x : IsTab o f) (h : ∀ c, c < 256 → f c = g c) : IsTab o g := by
  obtain ⟨items, n, a, b, c, d⟩ := x
  refine ⟨items, n, a, b, c, fun j hj => ?_⟩
  obtain ⟨t, ht⟩ := d j hj
  exact ⟨t, by rw [ht, h j hj]⟩
section
variable {m0 mb : Str → Option Value} {h₀ hp : Heap} {c Pl F : Addr} {ps : Array Value} {l r : FrL} {fs : Fs} {w : World} {A : Around} {s : Shared} {tk₀ : Nat} {E : Value → Shared → Prop} {Q : Flow → Shared → Prop} {pos px p₁ p₂ p₃ p₄ p₅ p₆ p₇ : Pos} {x : Str} {e : Expr}
noncomputable abbrev cS : Str := Str.ofString "c"
noncomputable abbrev chrS : Str := Str.ofString "chr"
/-- for c in bytes: D[c] = chr(c) -/
theorem tx_tab {bs : List UInt8} {d : Str} {D : Addr} {o : Obj} {f : Nat → List Nat} {v₀ : Option Value} (B : TB m0 mb h₀ c Pl) (T : TA m0 h₀ c Pl ps ((cS, v₀) :: r) ((D, o) :: fs) hp) (hh : A.handled = none)
    (hit : Ev w A (mainEnv P c F) hp e fun v => ∃ t, v = .bytes bs.toArray t) (hd : gl m0 r d = some (.ref D)) (hdc : (d == cS) = false) (hdd : (d == ("__debug__" : Str)) = false) (hchr : gl m0 r chrS = none) (hbc : mb chrS = some (.builtin "chr"))
    (tab : IsTab o f) (hne : D ∉ fs.map (·.1))
    (k : ∀ v o' h' tk, (bs ≠ [] → ∃ u, v = some u) → TA m0 h₀ c Pl ps ((cS, v) :: r) ((D, o') :: fs) h' → IsTab o' (fun j => if j ∈ bs.map (·.toNat) then [j] else f j) → Q .next (St s h' tk))
    (hs : ∀ x, foldedSetIterable e (mainEnv P c F) x = pure x := by intro _; rfl) :
    wpAny (model P w) A (exec (.For (.Name cS px) e [.Assign [.Subscript (.Name d p₁) (.Name cS p₂) p₃] (.Call (.Name chrS p₄) [.Name cS p₅] [] p₆) p₇] [] pos) (mainEnv P c F)) Q E (St s hp tk₀) := by
  obtain ⟨og, _, _, hog, _⟩ := T.g
  have hD := T.kept (D, o) (by simp)
  refine ex_forB (fun i h => ∃ v o', (i ≠ 0 → ∃ u, v = some u) ∧ TA m0 h₀ c Pl ps ((cS, v) :: r) ((D, o') :: fs) h ∧ IsTab o' (fun j => if j ∈ (bs.take i).map (·.toNat) then [j] else f j)) [mainGlobals, D] hh hit ?_ ?_ ?_ ?_ ?_ hs
  · intro b hb
    simp only [List.mem_cons, List.not_mem_nil, or_false] at hb
    rcases hb with rfl | rfl
    · exact ⟨_, hog⟩
    · exact ⟨_, hD⟩
  · intro h' e'
    exact ⟨v₀, o, fun q => absurd rfl q, T.up e', tab.congr fun c _ => by simp⟩
  · rintro I i h h' hI ⟨v, o', hv, T', tab'⟩ kb
    have hl := T.lt hI
    exact ⟨v, o', hv, T'.aside (hb := hp) ⟨hl.1, hl.2.1, hl.2.2.1, by simpa using hl.2.2.2⟩ (T.fresh0 hI) kb, tab'⟩
  · rintro i b u h tk E' hb ⟨v, o', hv, T', tab'⟩
    have hb256 : b.toNat < 256 := b.toNat_lt
    refine as_mod B T' fun h₁ tk₁ T₁ kb₁ => ?_
    have T1 : TA m0 h₀ c Pl ps ((cS, some (.int ((b.toNat : Nat) : Int) u)) :: r) ((D, o') :: fs) h₁ := T₁
    have gd : gl m0 ((cS, some (.int ((b.toNat : Nat) : Int) u)) :: r) d = some (.ref D) := by rw [gl_cons, hdc]; exact hd
    have gc : gl m0 ((cS, some (.int ((b.toNat : Nat) : Int) u)) :: r) chrS = none := by rw [gl_cons]; exact hchr
    have evc : ∀ {p : Pos}, Ev w A (mainEnv P c F) h₁ (.Name cS p) (IsI ((b.toNat : Nat) : Int)) := fun {p} => Co.post (ev_mod T1 (by rw [gl_cons]; rfl)) fun v e => ⟨u, e⟩
    refine wpAny_execs_cons (tx_set (k₀ := b.toNat) (a := [b.toNat]) B T1 gd tab' hne hb256 evc (ev_chr (ev_modB B T1 gc hbc) evc (by omega)) (fun o₂ h₂ tk₂ T₂ tab₂ kb₂ => wpAny_execs_nil ⟨.inl rfl, h₂, tk₂, rfl, ⟨_, o₂, fun _ => ⟨_, rfl⟩, T₂, tab₂.congr fun j hj => ?_⟩, ?_⟩) (hdd := hdd))
    · rw [List.take_add_one, hb, Option.toList_some, List.map_append, List.map_singleton]
      by_cases ej : j = b.toNat
      · subst ej
        rw [if_pos rfl, if_pos (by simp)]
      · rw [if_neg ej]
        by_cases em : j ∈ (bs.take i).map (·.toNat)
        · rw [if_pos em, if_pos (by simp only [List.mem_append]; exact .inl em)]
        · rw [if_neg em, if_neg (by simp only [List.mem_append, List.mem_singleton, not_or]; exact ⟨em, ej⟩)]
    · exact (kb₁.mono (by simp)).trans (kb₂.mono (by simp))
  · rintro h' tk ⟨v, o', hv, T', tab'⟩
    exact k v o' h' tk (fun hb => hv fun q => hb (List.eq_nil_of_length_eq_zero q)) T' (by rwa [List.take_length] at tab')
end
end Mine

/-! ### U5 -/
open PySem PySem.W PyProof.Rows PySem.Calls
set_option Elab.async false
set_option maxRecDepth 100000
set_option maxHeartbeats 4000000
set_option linter.unusedVariables false
namespace Mine
section
variable {m0 mb : Str → Option Value} {h₀ hp : Heap} {c Pl F : Addr} {ps : Array Value} {l r : FrL} {fs : Fs} {w : World} {A : Around} {s : Shared} {tk₀ : Nat} {E : Value → Shared → Prop} {Q : Flow → Shared → Prop} {pos px p₁ p₂ p₃ p₄ p₅ p₆ p₇ : Pos} {x : Str} {e : Expr}
noncomputable abbrev fnObj (name : Str) (params : Arguments) (body : List Stmt) (scope : Scope) (dV pm : Value) (c' : Addr) (doc : Value) : Obj :=
  { cls := .type "function", data := .func (defFd name name params body scope mainGlobals dV .none none pm (.ref c') doc) }
/-- an object that the top's names do not name, added to the facts -/
theorem TA.adds {l' : FrL} {ps' : Array Value} {h' : Heap} (T : TA m0 h₀ c Pl ps l fs hp) (T' : TA m0 h₀ c Pl ps' l' fs h') : ∀ (gs : Fs), (∀ p ∈ gs, hp.get? p.1 = none ∧ h'.get? p.1 = some p.2) → TA m0 h₀ c Pl ps' l' (gs ++ fs) h' := by
  intro gs hg
  refine ⟨T'.g, T'.code, T'.kb, T'.nb, fun p hp' => ?_, fun p hp' => ?_⟩
  · rcases List.mem_append.mp hp' with q | q
    · exact (hg p q).2
    · exact T'.kept p q
  · rcases List.mem_append.mp hp' with q | q
    · have := T.lt (hg p q).1
      exact ⟨this.1, this.2.1, this.2.2.1, T.fresh0 (hg p q).1⟩
    · exact T'.out p q
/-- no def at or below line n stands in the table -/
noncomputable def LTab (ps : Array Value) (n : Nat) : Prop := ∀ pos : Pos, n ≤ pos.line → codeAmong pos ps.toList = none
theorem LTab.nil : LTab #[] 0 := fun _ _ => rfl
theorem codeAmong_app {pos : Pos} {l : List Value} {a b : Int} {v : Value} (h : TriplesOk l) (hn : codeAmong pos l = none) (hne : ((a == pos.line) && (b == pos.col)) = false) : codeAmong pos (l ++ [rawInt a, rawInt b, v]) = none := by
  fun_induction TriplesOk l with
  | case1 =>
    show (if ((a == pos.line) && (b == pos.col)) = true then some v else none) = none
    rw [hne]; rfl
  | case2 a t b u x rest ih =>
    simp only [List.cons_append, codeAmong] at hn ⊢
    split at hn
    · cases hn
    · rename_i hc; rw [if_neg hc]; exact ih h hn
  | case3 l h1 h2 => exact h.elim
theorem LTab.snoc {ps : Array Value} {n : Nat} {p : Pos} {v : Value} (x : LTab ps n) (ht : TriplesOk ps.toList) (hn : n ≤ p.line) : LTab (ps ++ #[rawInt p.line, rawInt p.col, v]) (p.line + 1) := by
  intro pos hp
  rw [Array.toList_append]
  refine codeAmong_app ht (x pos (by omega)) ?_
  have : ¬ ((p.line : Int) = (pos.line : Int)) := by omega
  simp [this]
/-- def name(..): .. -/
theorem tx_def {name : Str} {params : Arguments} {body : List Stmt} {scope : Scope} {VV : List Value → Prop} (B : TB m0 mb h₀ c Pl) (T : TA m0 h₀ c Pl ps l fs hp)
    (hev : Co w A (evalAll (evalEach params.defaults (mainEnv P c F))) hp VV)
    (k : ∀ a c' P' co doc pm dV vs fsd h' tk ps', P' ∉ fs.map (·.1) → LTab ps' (pos.line + 1) → VV vs → ((vs = [] ∧ dV = .none ∧ fsd = []) ∨ ∃ T, vs ≠ [] ∧ dV = .ref T ∧ fsd = [(T, { cls := .type "tuple", data := .seq vs.toArray })]) →
      (∀ q : Heap, q.get? c' = some co → CodeHd q c' P' ∧ q.CodeRec (.ref c') name) →
      TA m0 h₀ c Pl ps' (setO l name (some (.ref a))) (((a, fnObj name params body scope dV pm c' doc) :: (c', co) :: (P', tabObj #[]) :: fsd) ++ fs) h' → Q .next (St s h' tk))
    {n : Nat} (hlt : LTab ps n) (hnl : n ≤ pos.line) (hkw : params.kwonlyargs = [] := by rfl) (hkd : params.kw_defaults = [] := by rfl) (hann0 : annTrees params none (mainEnv P c F) = [] := by rfl)
    (hfree : ∀ x ∈ scope.names, x.2 ≠ .free := by decide) (hloc : P.main.scope.names.lookup name = some .local := by rfl) (hq : qualnameIn (mainEnv P c F) name name = name := by rfl) (hnb : name ≠ "__builtins__" := by decide) :
    wpAny (model P w) A (exec (.FunctionDef name params body [] none [] scope none name pos) (mainEnv P c F)) Q E (St s hp tk₀) := by
  have hnf := hlt pos hnl
  have hlt' : ∀ c' : Addr, LTab (ps ++ #[rawInt pos.line, rawInt pos.col, .ref c']) (pos.line + 1) := fun c' => hlt.snoc (by obtain ⟨o, vs, file, tf, flags, tg, inF, text, tt, op, q1, r1, r2, r3, r4, r5, r6, q2, r7, r8, _⟩ := T.code; exact r8) hnl
  rw [exec_def, hq, defaultsOf_eq, hkd, hann0]
  refine wpAny_bind (wpAny_standAt (wpAny_bind (wpAny_holding ?_)))
  refine wpAny_bind (Co.use hev (Ext.refl _) fun vs h₁ k₁ hvs e₁ => ?_)
  refine wpAny_bind (wpAny_holding (wpAny_pure ?_))
  refine wpAny_holding ?_
  refine wpAny_bind (wpAny_pure ?_)
  have T1 := T.up e₁
  have hm := T1.main B
  refine wpAny_makeFunction_d0N (s := St s h₁ k₁) (env := mainEnv P c F) (c := c) (Pl := Pl) hkw hfree hm.g rfl hm.code hnf (Nat.ne_of_lt hm.low.2) hm.bmod
    fun dV c' doc h₂ tk₃ hdef hx hge hlt hok hrec htb => wpAny_bind (wpAny_standAt (wpAny_bind (wpAny_bindName (wpAny_storeName_local (env := mainEnv P c F) hloc
      ((hm.g.extBut hx (Nat.ne_of_lt hm.low.2)).push _) (fun h' hg' hs' => wpAny_pure ?_) rfl))))
  generalize hpm : ((gl m0 l "__name__").getD .none) = pm at *
  have hg2 : h'.Ns mainGlobals (fun x => if x = name then some (.ref h₂.objs.size) else gl m0 l x) := hg'
  have hs2 : Heap.SameBut mainGlobals (h₂.push (fnObj name params body scope dV pm c' doc)) h' := hs'
  have hx2 : Heap.ExtBut Pl h₁ h₂ := hx
  have hge2 : h₁.objs.size ≤ c' := hge
  have hdef2 : h₂.DefaultsAt h₁.objs.size vs dV := hdef
  obtain ⟨P', hP', hi, ht⟩ := htb
  have hP2 : h₁.objs.size ≤ P' := hP'
  have hsz : h₁.objs.size ≤ h₂.objs.size := Nat.le_trans hge2 (Nat.le_of_lt hlt)
  have none_of : ∀ {b : Addr}, h₁.objs.size ≤ b → h₁.get? b = none := fun hb => Heap.get?_none_of_le hb
  have neG : ∀ {b : Addr}, h₁.objs.size ≤ b → b ≠ mainGlobals := fun hb => (T1.lt (none_of hb)).1
  have at' : ∀ {b : Addr} {o : Obj}, h₁.objs.size ≤ b → h₂.get? b = some o → h'.get? b = some o := fun hb e => (hs2.2 _ (neG hb)).trans (Heap.get?_push_of_some _ e)
  obtain ⟨⟨co, cvs, hco, hcc, hcd, h11⟩, htP⟩ := id ht
  have hC : ∀ q : Heap, q.get? c' = some co → CodeHd q c' P' ∧ q.CodeRec (.ref c') name := by
    intro q hq
    have hd := CodeHd.of hi ht
    obtain ⟨o, vs', file, tf, flags, tg, inF, text, tt, e, r⟩ := hd
    rw [hco] at e; cases e
    obtain ⟨c₂, o₂, vs₂, t₂, e₂, g₂, r₂⟩ := hrec
    cases e₂
    rw [hco] at g₂; cases g₂
    exact ⟨⟨co, vs', file, tf, flags, tg, inF, text, tt, hq, r⟩, ⟨_, co, vs₂, t₂, rfl, hq, r₂⟩⟩
  -- the state behind
  have T2 : TA m0 h₀ c Pl (ps ++ #[rawInt pos.line, rawInt pos.col, .ref c']) (setO l name (some (.ref h₂.objs.size))) fs h' := by
    have kb : ∀ b o, b ≠ mainGlobals → b ≠ Pl → h₁.get? b = some o → h'.get? b = some o := fun b o hb hb' e => (hs2.2 _ hb).trans (Heap.get?_push_of_some _ (hx2 _ _ hb' e))
    refine ⟨by rw [← gl_setO]; exact hg2, (hok.push _).sameBut hs2 (Nat.ne_of_gt B.low.1) (Nat.ne_of_gt B.low.2), fun b o hb e => ?_, ?_, fun p hp => ?_, T1.out⟩
    · exact kb b o (by simpa using hb) (fun q => by rw [q, B.pl] at e; cases e) (T1.kb b o hb e)
    · rw [← gl_setO]
      simp only [Ne.symm hnb, if_false]
      exact T1.nb
    · exact kb _ _ (T1.out p hp).1 (T1.out p hp).2.2.1 (T1.kept p hp)
  have hfn : h'.get? h₂.objs.size = some (fnObj name params body scope dV pm c' doc) := (hs2.2 _ (neG hsz)).trans (Heap.get?_push_size _ rfl)
  rcases hdef2 with ⟨hv0, hd0⟩ | ⟨hne, Tt, e, hT, hg⟩
  · refine k h₂.objs.size c' P' co doc pm dV vs [] h' _ _ (T1.lt (none_of hP2)).2.2.2 (hlt' c') hvs (.inl ⟨hv0, hd0, rfl⟩) hC (TA.adds T1 T2 _ ?_)
    intro p hp
    simp only [List.mem_cons, List.not_mem_nil, or_false] at hp
    rcases hp with rfl | rfl | rfl
    · exact ⟨none_of hsz, hfn⟩
    · exact ⟨none_of hge2, at' hge2 hco⟩
    · exact ⟨none_of hP2, at' hP2 htP⟩
  · refine k h₂.objs.size c' P' co doc pm dV vs _ h' _ _ (T1.lt (none_of hP2)).2.2.2 (hlt' c') hvs (.inr ⟨Tt, hne, e, rfl⟩) hC (TA.adds T1 T2 _ ?_)
    intro p hp
    simp only [List.mem_cons, List.not_mem_nil, or_false] at hp
    rcases hp with rfl | rfl | rfl | rfl
    · exact ⟨none_of hsz, hfn⟩
    · exact ⟨none_of hge2, at' hge2 hco⟩
    · exact ⟨none_of hP2, at' hP2 htP⟩
    · exact ⟨none_of hT, at' hT hg⟩
/-- range(n) as what a loop runs over -/
theorem src_range {env : Env} {n : Nat} {k₀ : Nat} {rg : Str} (hh : A.handled = none) (hn : n < 2 ^ 62) (hr : Ev w A env hp (.Name rg p₁) (IsV (.type "range"))) (hs : starEach [.Constant (.int n) k₀ p₂] env = [(false, eval (.Constant (.int n) k₀ p₂) env)] := by rfl) :
    Src w A env hp (.Call (.Name rg p₁) [.Constant (.int n) k₀ p₂] [] pos) n fun i v => ∃ t, v = .int (i : Int) t := by
  intro s Q E hI hQ
  refine Call_ (hr s _ E hI fun fv h₁ k₁ hv₁ e₁ => ?_)
  subst hv₁
  refine PyProof.Rows.callWith_type1 (args_cons (Co.use (ev_int (w := w) (A := A) (env := env) (h := h₁) (i := (n : Int)) (k := k₀) (pos := p₂)) (Ext.refl _) fun v h₂ k₂ hv₂ e₂ => args_nil ?_) (by rw [hs]; rfl)) (by rw [hs]; rfl) rfl
  obtain ⟨t, rfl⟩ := hv₂
  refine call_range_1 ?_
  refine wpAny_pyIter_range (IsRange.new _ _ _ _ _ _ _) (small_one (by omega) (by omega) (by omega) (by omega)) ?_
  have hsz : Builtin.Range.rangeSize 0 (n : Int) 1 = n := by rw [rangeSize_one]; split <;> omega
  rw [hsz]
  have W := Walks.range (prog := P) (w := w) (A := A) hh (h₂.push { cls := .type "range", data := .fields #[.int 0 k₂, .int n t, .int 1 (k₂ + 1)] }).objs.size 0 1 n
  refine hQ _ _ _ _ _ _ ⟨W.sub, W.frame, fun i s Q E hi st hq => W.item i s Q E hi st fun v h' tk hp st' k => hq v h' tk ?_ st' k, W.done, W.self⟩ ?_ ?_ ?_ ((e₁.trans e₂).trans ((Ext.push _ _).trans (Ext.push _ _)))
  · obtain ⟨t, rfl⟩ := hp
    exact ⟨t, by congr 1; omega⟩
  · have := Heap.get?_push_size (h := h₂.push { cls := .type "range", data := .fields #[.int 0 k₂, .int n t, .int 1 (k₂ + 1)] }) (o := { cls := .type "range_iterator", data := .fields #[rawInt 0, rawInt n, rawInt 1] }) rfl
    show IsRangeIter _ _ (0 + ((0 : Nat) : Int) * 1) ((n : Int) - ((0 : Nat) : Int)) 1
    rw [show (0 : Int) + ((0 : Nat) : Int) * 1 = 0 by omega, show (n : Int) - ((0 : Nat) : Int) = n by omega]
    exact this
  · intro b hb
    rw [List.mem_singleton.mp hb]
    show _ < (Heap.push (Heap.push h₂ _) _).objs.size
    rw [Heap.size_push (h₂.push _)]
    exact Nat.lt_succ_self _
  · intro b hb
    rw [List.mem_singleton.mp hb]
    exact fresh_size ((e₁.trans e₂).trans (Ext.push _ _))
end
end Mine

/-! ### U6 -/
open PySem PySem.W PyProof.Rows PySem.Calls
set_option Elab.async false
set_option maxRecDepth 100000
set_option maxHeartbeats 4000000
set_option linter.unusedVariables false
namespace Mine
noncomputable def hexT (c : Nat) : List Nat := [61, hexC (c / 16), hexC (c % 16)]
noncomputable def lowL : List Nat := [97, 98, 99, 100, 101, 102, 103, 104, 105, 106, 107, 108, 109, 110, 111, 112, 113, 114, 115, 116, 117, 118, 119, 120, 121, 122]
noncomputable def upL : List Nat := [65, 66, 67, 68, 69, 70, 71, 72, 73, 74, 75, 76, 77, 78, 79, 80, 81, 82, 83, 84, 85, 86, 87, 88, 89, 90]
noncomputable def digL : List Nat := [48, 49, 50, 51, 52, 53, 54, 55, 56, 57]
noncomputable def bytesOf (a : List Nat) : List UInt8 := a.map fun c => UInt8.ofNat c
section
open Builtin
theorem enc_letters (t u : Tok) : «str.encode» ⟨[.str ⟨(lowL ++ upL).toArray⟩ t, .str (Str.ofString "ascii") u], []⟩ = (mkBytes (bytesOf (lowL ++ upL)).toArray >>= fun v => ret v) := by kernel_rfl
theorem enc_digits (t u : Tok) : «str.encode» ⟨[.str ⟨digL.toArray⟩ t, .str (Str.ofString "ascii") u], []⟩ = (mkBytes (bytesOf digL).toArray >>= fun v => ret v) := by kernel_rfl
end
section
variable {m0 mb : Str → Option Value} {h₀ hp h : Heap} {c Pl F : Addr} {ps : Array Value} {l : FrL} {fs : Fs} {w : World} {A : Around} {env : Env} {pos px p₁ p₂ p₃ p₄ p₅ p₆ p₇ apos : Pos} {x : Str} {e e₂ o : Expr}
noncomputable abbrev IsBy (b : List UInt8) : Value → Prop := fun v => ∃ t, v = .bytes b.toArray t
theorem ev_bytes {b : List UInt8} {k : Nat} : Ev w A env h (.Constant (.bytes b) k pos) (IsBy b) :=
  fun s _ _ _ hQ => Constant_bytes (hQ _ s.heap _ ⟨_, rfl⟩ (Ext.refl _))
theorem ev_addB {a b : List UInt8} (ha : Ev w A env h e (IsBy a)) (hb : Ev w A env h e₂ (IsBy b)) (hsz : a.length + b.length ≤ 16777216) : Ev w A env h (.BinOp e .Add e₂ pos) (IsBy (a ++ b)) := by
  refine ev_binop ha hb ?_
  rintro _ _ ⟨t, rfl⟩ ⟨u, rfl⟩
  exact Co.still fun s Q E hQ => KBy.add_bytes (by simpa using hsz) fun t' k => hQ _ k ⟨t', by simp⟩
theorem ev_encode {a : List Nat} {b : List UInt8} {k : Nat} (he : ∀ t u, Builtin.«str.encode» ⟨[.str ⟨a.toArray⟩ t, .str (Str.ofString "ascii") u], []⟩ = (mkBytes b.toArray >>= fun v => ret v)) (hsz : b.length ≤ sizeLine) (ho : Ev w A env h o (IsS a))
    (hb : attributeBase o "encode" env (eval o env) = eval o env := by rfl) (hl : (apos.endLine == pos.line) = true := by rfl) (hs : starEach [.Constant (.str "ascii") k p₁] env = [(false, eval (.Constant (.str "ascii") k p₁) env)] := by rfl) :
    Ev w A env h (.Call (.Attribute o "encode" apos) [.Constant (.str "ascii") k p₁] [] pos) (IsBy b) := by
  refine ev_meth1 PySem.F.slot_str_encode PySem.F.type_str_encode ho (Va := fun v => ∃ t, v = .str (Str.ofString "ascii") t) (fun s _ _ _ hQ => Constant_str (hQ _ s.heap _ ⟨_, rfl⟩ (Ext.refl _))) ?_ hb hl hs
  rintro t _ ⟨u, rfl⟩
  intro s Q E hI hQ
  have m : Meets (Builtin.«str.encode» ⟨[.str ⟨a.toArray⟩ t, .str (Str.ofString "ascii") u], []⟩) (fun _ R s => ∀ t' k, R (.ok (.ret (.bytes b.toArray t'))) { s with toks := k }) := by
    rw [he]
    refine Meets.of_wp fun prog w A R s hs => wpAny_bind ?_
    unfold mkBytes
    rw [if_neg (by rw [List.size_toArray]; omega)]
    exact wpAny_bind (wpAny_fresh (wpAny_pure (wpAny_pure ⟨_, rfl, hs _ _⟩)))
  exact call_meets PySem.F.slot_str_encode (typeIs_str _ _ _) PySem.F.entry_str_encode (PySem.F.args_str_encode_2 _ _) m fun t' k => hQ _ s.heap k ⟨t', rfl⟩ (Ext.refl _)
/-- ['=%02X' % c for c in range(256)] -/
theorem ev_map {scope : Scope} {k₁ k₂ : Nat} {rg fm : Str} (hh : A.handled = none) (hfm : fm = F02X) (hr : Ev w A env h (.Name rg p₁) (IsV (.type "range")))
    (hs : starEach [.Constant (.int (256 : Nat)) k₁ p₂] env = [(false, eval (.Constant (.int (256 : Nat)) k₁ p₂) env)] := by rfl)
    (hclos : closureFor scope env = pure [] := by rfl) (hcell : ∀ y ∈ scope.names, y.2 ≠ .cell := by decide) (hkind : scope.kind = .function := by rfl)
    (hnames : ∀ y ∈ scope.names, y.2 = .local → scope.names.lookup y.1 = some .local := by decide) (hx : scope.names.lookup x = some .local := by rfl) (hd : (x == ("__debug__" : Str)) = false := by rfl)
    (hck : ∀ {C : Addr}, (compEnvC scope [] C env).scope.kind = .function := by intro _; rfl) (hcl : ∀ {C : Addr}, (compEnvC scope [] C env).kindOf x = some .local := by intro _; rfl)
    (hs2 : ∀ x, foldedSetIterable (.Call (.Name rg p₁) [.Constant (.int (256 : Nat)) k₁ p₂] [] p₃) env x = pure x := by intro _; rfl) :
    EvH w A env h (.ListComp (.BinOp (.Constant (.str fm) k₂ p₄) .Mod (.Name x p₅) p₆) [⟨.Name x px, .Call (.Name rg p₁) [.Constant (.int (256 : Nat)) k₁ p₂] [] p₃, [], 0⟩] scope pos) fun v h' => ∃ D o, v = .ref D ∧ h.get? D = none ∧ h'.get? D = some o ∧ IsTab o hexT := by
  refine CoH.post (ev_comp (N := 256) (Pv := fun i v => i < 256 ∧ ∃ t, v = Value.int ((i : Nat) : Int) t) (fun _ => true) (fun v y => ∀ (c : Nat) t, v = Value.int (c : Int) t → c < 256 → IsS (hexT c) y) ?_ (by rw [sizeLine_eq]; decide) ?_ ?_ hclos hcell hkind hnames hx hs2) ?_
  · intro s Q E hI hQ
    refine src_range (n := 256) hh (by decide) hr hs s Q E hI fun I fp wr St' h₂ tk W a1 a2 a3 a4 => hQ I fp wr St' h₂ tk ⟨W.sub, W.frame, fun i s Q E hi st hq => W.item i s Q E hi st fun v h' tk hp st' k => hq v h' tk ⟨hi, hp⟩ st' k, W.done, W.self⟩ a1 a2 a3 a4
  · rintro C h' m i v E' s he rfl hn hm hv
    exact wpAny_tests_nil ⟨rfl, s.heap, s.toks, rfl, fun _ _ e => e⟩
  · rintro C h' m i v he hn hm ⟨hi, t, rfl⟩ _
    refine Co.post (ev_02X (c := i) hfm (ev_localMI hn hm hck hcl hd) hi) fun y hy c t' e hc => ?_
    have : (i : Int) = (c : Int) := by cases e; rfl
    have : i = c := by omega
    subst this
    exact hy
  · rintro v h' ⟨D, ys, vs, rfl, hD, ⟨n, hpl⟩, hlen, hP, hF⟩
    rw [List.filter_eq_self.mpr (fun _ _ => rfl)] at hF
    have hl : ys.size = 256 := by
      have : ∀ {α β : Type} {G : α → β → Prop} {l₁ : List α} {l₂ : List β}, Paired G l₁ l₂ → l₁.length = l₂.length := by
        intro α β G l₁ l₂ h
        induction h with
        | nil => rfl
        | cons _ _ ih => simp [ih]
      have := this hF
      rw [hlen] at this
      simpa using this.symm
    refine ⟨D, _, rfl, hD, hpl, ys, n, rfl, rfl, hl, fun c hc => ?_⟩
    have pAt' : ∀ {l₁ : List Value} {l₂ : List Value} {G : Value → Value → Prop} {i : Nat} {b : Value}, Paired G l₁ l₂ → l₂[i]? = some b → ∃ a, l₁[i]? = some a ∧ G a b := by
      intro l₁ l₂ G i b h
      induction h generalizing i with
      | nil => intro e; simp at e
      | cons h1 _ ih =>
        intro e
        cases i with
        | zero => simp at e; subst e; exact ⟨_, rfl, h1⟩
        | succ i => exact ih (by simpa using e)
    obtain ⟨y, hy⟩ : ∃ y, ys.toList[c]? = some y := ⟨ys.toList[c]'(by simpa using hl ▸ hc), by simp⟩
    obtain ⟨a, ha, hG⟩ := pAt' hF hy
    obtain ⟨_, t, rfl⟩ := hP c a ha
    obtain ⟨t', rfl⟩ := hG c t rfl hc
    exact ⟨t', by simpa using hy⟩
/-- d[:] -/
theorem ev_copy {d : Str} {D : Addr} {o : Obj} {f : Nat → List Nat} (T : TA m0 h₀ c Pl ps l fs hp) (hd : gl m0 l d = some (.ref D)) (hD : hp.get? D = some o) (tab : IsTab o f) (hdd : (d == ("__debug__" : Str)) = false := by rfl) :
    EvH w A (mainEnv P c F) hp (.Subscript (.Name d p₁) (.Slice none none none p₂) pos) fun v h' => ∃ D' o', v = .ref D' ∧ hp.get? D' = none ∧ h'.get? D' = some o' ∧ IsTab o' f := by
  obtain ⟨items, hl, hz, hf⟩ := tab.list hD
  refine CoH.post (ev_sliceL (G := fun its => its.toArray = items) (i := none) (j := none) (fun s Q E hI hQ => ev_mod T hd hdd s Q E hI fun v h' tk hv e => hQ v h' tk ⟨D, items.toList, hv, by rw [show items.toList.toArray = items by simp]; exact hl.at fun o q => e _ o (hI _ o q), by simp⟩ e) pt_none pt_none ?_) ?_
  · intro its hG
    rw [← List.size_toArray, hG, hz, sizeLine_eq]
    decide
  · rintro v h' ⟨D', its, rfl, hn, ho, hG⟩
    rw [slicePick_all, hG] at ho
    refine ⟨D', _, rfl, hn, ho, items, 0, rfl, ?_, hz, hf⟩
    simp
end
end Mine

/-! ### U7 -/
open PySem PySem.W PyProof.Rows PySem.Calls
set_option Elab.async false
set_option maxRecDepth 100000
set_option maxHeartbeats 8000000
set_option linter.unusedVariables false
set_option linter.unusedSimpArgs false
namespace Mine
noncomputable def sPos : Stmt → Pos | .FunctionDef _ _ _ _ _ _ _ _ _ p => p | _ => default
theorem def14 : stAt 14 = .FunctionDef (Str.ofString "unquote") (fArgs (stAt 14)) (fBody (stAt 14)) [] none [] (fScope (stAt 14)) none (Str.ofString "unquote") (sPos (stAt 14)) := rfl
theorem def15 : stAt 15 = .FunctionDef (Str.ofString "quote") (fArgs (stAt 15)) (fBody (stAt 15)) [] none [] (fScope (stAt 15)) none (Str.ofString "quote") (sPos (stAt 15)) := rfl
theorem def19 : stAt 19 = .FunctionDef (Str.ofString "body_encode") (fArgs (stAt 19)) (fBody (stAt 19)) [] none [] (fScope (stAt 19)) none (Str.ofString "body_encode") (sPos (stAt 19)) := rfl
theorem def20 : stAt 20 = .FunctionDef (Str.ofString "decode") (fArgs (stAt 20)) (fBody (stAt 20)) [] none [] (fScope (stAt 20)) none (Str.ofString "decode") (sPos (stAt 20)) := rfl
theorem def23 : stAt 23 = .FunctionDef (Str.ofString "reduce") (fArgs (stAt 23)) (fBody (stAt 23)) [] none [] (fScope (stAt 23)) none (Str.ofString "reduce") (sPos (stAt 23)) := rfl
theorem def25 : stAt 25 = .FunctionDef (Str.ofString "_law_parts") (fArgs (stAt 25)) (fBody (stAt 25)) [] none [] (fScope (stAt 25)) none (Str.ofString "_law_parts") (sPos (stAt 25)) := rfl
theorem def26 : stAt 26 = .FunctionDef (Str.ofString "_law_rows") (fArgs (stAt 26)) (fBody (stAt 26)) [] none [] (fScope (stAt 26)) none (Str.ofString "_law_rows") (sPos (stAt 26)) := rfl
theorem def27 : stAt 27 = .FunctionDef (Str.ofString "_law_raw") (fArgs (stAt 27)) (fBody (stAt 27)) [] none [] (fScope (stAt 27)) none (Str.ofString "_law_raw") (sPos (stAt 27)) := rfl
theorem def28 : stAt 28 = .FunctionDef (Str.ofString "law") (fArgs (stAt 28)) (fBody (stAt 28)) [] none [] (fScope (stAt 28)) none (Str.ofString "law") (sPos (stAt 28)) := rfl
theorem body_eq : P.main.body = [stAt 0, stAt 1, stAt 2, stAt 3, stAt 4, stAt 5, stAt 6, stAt 7, stAt 8, stAt 9, stAt 10, stAt 11, stAt 12, stAt 13, stAt 14, stAt 15, stAt 16, stAt 17, stAt 18, stAt 19, stAt 20, stAt 21, stAt 22, stAt 23, stAt 24, stAt 25, stAt 26, stAt 27, stAt 28] := rfl
noncomputable def topNames : List Str := [Str.ofString "c", Str.ofString "CRLF", Str.ofString "NL", Str.ofString "_QUOPRI_MAP", Str.ofString "_QUOPRI_HEADER_MAP", Str.ofString "_QUOPRI_BODY_MAP", Str.ofString "ascii_lowercase", Str.ofString "ascii_uppercase", Str.ofString "ascii_letters", Str.ofString "digits", Str.ofString "hexdigits", Str.ofString "__name__", Str.ofString "unquote", Str.ofString "quote", Str.ofString "_QUOPRI_BODY_ENCODE_MAP", Str.ofString "body_encode", Str.ofString "decode", Str.ofString "_initial_missing", Str.ofString "reduce", Str.ofString "_law_parts", Str.ofString "_law_rows", Str.ofString "_law_raw", Str.ofString "law"]
noncomputable abbrev topL (vs : List (Option Value)) : FrL := topNames.zip vs
noncomputable def nm1 : List Nat := [99, 112, 121, 51, 49, 51, 46, 101, 109, 97, 105, 108, 46, 113, 117, 111, 112, 114, 105, 109, 105, 109, 101]
noncomputable def nm2 : List Nat := [99, 112, 121, 51, 49, 51, 46, 102, 117, 110, 99, 116, 111, 111, 108, 115]
noncomputable def nm3 : List Nat := [108, 97, 119, 95, 111, 99, 48, 49, 49, 55, 95, 48, 49]
noncomputable def bodyB : List UInt8 := [32, 33, 34, 35, 36, 37, 38, 39, 40, 41, 42, 43, 44, 45, 46, 47, 48, 49, 50, 51, 52, 53, 54, 55, 56, 57, 58, 59, 60, 62, 63, 64, 65, 66, 67, 68, 69, 70, 71, 72, 73, 74, 75, 76, 77, 78, 79, 80, 81, 82, 83, 84, 85, 86, 87, 88, 89, 90, 91, 92, 93, 94, 95, 96, 97, 98, 99, 100, 101, 102, 103, 104, 105, 106, 107, 108, 109, 110, 111, 112, 113, 114, 115, 116, 117, 118, 119, 120, 121, 122, 123, 124, 125, 126, 9]
theorem tab_enc : ∀ c, c < 256 → (if c ∈ ([13, 10] : List UInt8).map (·.toNat) then [c] else if c ∈ bodyB.map (·.toNat) then [c] else hexT c) = trE c := by decide +kernel
/-- what stands behind the top -/
structure LawLib (mg mb : Str → Option Value) (h : Heap) : Prop where
  lib : Lib mg mb h
  enc : ∃ a dV t1 t2, mg "body_encode" = some (.ref a) ∧ IsFn h a 19 "body_encode" dV ∧ DefTup h dV #[.int 76 t1, .str (S [10]) t2]
  dec : ∃ a dV u, mg "decode" = some (.ref a) ∧ IsFn h a 20 "decode" dV ∧ DefTup h dV #[.str (S [10]) u]
  red : ∃ ma a dV, mg "_initial_missing" = some (.ref ma) ∧ mg "reduce" = some (.ref a) ∧ IsFn h a 23 "reduce" dV ∧ DefTup h dV #[.ref ma]
  parts : ∃ a, mg "_law_parts" = some (.ref a) ∧ IsFn h a 25 "_law_parts" .none
  rows : ∃ a, mg "_law_rows" = some (.ref a) ∧ IsFn h a 26 "_law_rows" .none
  raw : ∃ a, mg "_law_raw" = some (.ref a) ∧ IsFn h a 27 "_law_raw" .none
  law : ∃ a, mg "law" = some (.ref a) ∧ IsFn h a 28 "law" .none
noncomputable def TopEnd (m0 mb : Str → Option Value) (h₀ : Heap) (c Pl : Addr) (h : Heap) : Prop :=
  ∃ (vs : List (Option Value)) (fs : Fs) (ps : Array Value) (aL cL PL : Addr) (coL : Obj) (doc pm : Value),
    TA m0 h₀ c Pl ps (topL vs) ((aL, fnObj (Str.ofString "law") (fArgs (stAt 28)) (fBody (stAt 28)) (fScope (stAt 28)) .none pm cL doc) :: (cL, coL) :: (PL, tabObj #[]) :: fs) h ∧ gl m0 (topL vs) "law" = some (.ref aL) ∧
    (∀ q : Heap, q.get? cL = some coL → CodeHd q cL PL ∧ q.CodeRec (.ref cL) "law") ∧ PL ∉ fs.map (·.1) ∧
    ∀ q : Heap, q.Ns mainGlobals (gl m0 (topL vs)) → q.Ns builtinsNs mb → q.NoLimit →
      (∀ p ∈ (aL, fnObj (Str.ofString "law") (fArgs (stAt 28)) (fBody (stAt 28)) (fScope (stAt 28)) .none pm cL doc) :: (cL, coL) :: fs, q.get? p.1 = some p.2) → LawLib (gl m0 (topL vs)) mb q
section
variable {w : World} {A : Around} {h : Heap} {env : Env} {e e₂ : Expr}
theorem ev_dflt1 {V : Value → Prop} (he : Ev w A env h e V) : Co w A (evalAll (evalEach [e] env)) h fun vs => ∃ v, V v ∧ vs = [v] := by
  intro s Q E hI hQ
  refine wpAny_evalAll_cons (he s _ E hI fun v h₁ k₁ hv e₁ => wpAny_evalAll_nil ?_)
  exact hQ _ h₁ k₁ ⟨v, hv, rfl⟩ e₁
theorem ev_dflt2 {V V₂ : Value → Prop} (he : Ev w A env h e V) (he₂ : Ev w A env h e₂ V₂) : Co w A (evalAll (evalEach [e, e₂] env)) h fun vs => ∃ v u, V v ∧ V₂ u ∧ vs = [v, u] := by
  intro s Q E hI hQ
  refine wpAny_evalAll_cons (he s _ E hI fun v h₁ k₁ hv e₁ => wpAny_evalAll_cons (he₂ _ _ E (hI.trans e₁) fun u h₂ k₂ hu e₂ => wpAny_evalAll_nil ?_))
  exact hQ _ h₂ k₂ ⟨v, u, hv, hu, rfl⟩ (e₁.trans e₂)
end
section
variable {m0 mb : Str → Option Value} {h₀ hp : Heap} {c Pl F : Addr} {w : World} {A : Around} {s : Shared} {tk₀ : Nat} {E : Value → Shared → Prop} {Q : Flow → Shared → Prop} {ps : Array Value} {l : FrL} {fs : Fs} {px pos : Pos} {x : Str}
theorem ev_object (B : TB m0 mb h₀ c Pl) (T : TA m0 h₀ c Pl ps l fs hp) (hv : gl m0 l x = none) (hb : mb x = some (.type "object")) (hd : (x == ("__debug__" : Str)) = false := by rfl) :
    Ev w A (mainEnv P c F) hp (.Call (.Name x px) [] [] pos) fun v => ∃ X, v = .ref X := by
  intro s Q E hI hQ
  refine Call_ (ev_modB B T hv hb hd s _ E hI fun fv h₁ k₁ hv₁ e₁ => ?_)
  subst hv₁
  exact callWith_type0 (call_object (hQ _ _ _ ⟨_, rfl⟩ (e₁.trans (Ext.push _ _))))
theorem top_walk (B : TB m0 mb h₀ c Pl) (hbi : ∀ x ∈ biNames, m0 x = none ∧ mb x = bootBuiltins x) (hbr0 : m0 (Str.ofString "range") = none ∧ mb (Str.ofString "range") = some (.type "range")) (hbo0 : m0 (Str.ofString "object") = none ∧ mb (Str.ofString "object") = some (.type "object"))
    (T0 : TA m0 h₀ c Pl #[] (topL [none, none, none, none, none, none, none, none, none, none, none, (m0 (Str.ofString "__name__")), none, none, none, none, none, none, none, none, none, none, none]) [] hp) (hh : A.handled = none) (k : ∀ h' tk, TopEnd m0 mb h₀ c Pl h' → Q .next (St s h' tk)) :
    wpAny (model P w) A (execs P.main.body (mainEnv P c F)) Q E (St s hp tk₀) := by
  have hbc : mb chrS = some (.builtin "chr") := (hbi chrS (by decide)).2.trans boot_chr
  have hbo : mb (Str.ofString "ord") = some (.builtin "ord") := (hbi _ (by decide)).2.trans boot_ord
  have hbr := hbr0.2
  have hbob := hbo0.2
  have hchr0 : ∀ (r : FrL), gl m0 r chrS = m0 chrS → gl m0 r chrS = none := fun r e => e.trans (hbi chrS (by decide)).1
  have hrng : ∀ (l : FrL), gl m0 l (Str.ofString "range") = m0 (Str.ofString "range") → gl m0 l (Str.ofString "range") = none := fun l e => e.trans hbr0.1
  have hord0 : ∀ (l : FrL), gl m0 l (Str.ofString "ord") = m0 (Str.ofString "ord") → gl m0 l (Str.ofString "ord") = none := fun l e => e.trans (hbi _ (by decide)).1
  have hobj0 : ∀ (l : FrL), gl m0 l (Str.ofString "object") = m0 (Str.ofString "object") → gl m0 l (Str.ofString "object") = none := fun l e => e.trans hbo0.1
  rw [body_eq]
  refine wpAny_execs_cons ?_
  conv => arg 3; arg 1; whnf
  refine tx_assign B T0 (V := fun v _ => IsS [13, 10] v) (ev_str (a := [13, 10])) fun v g0 h0 tk0 hv e0 T' kb0 => ?_
  obtain ⟨t0, rfl⟩ := hv
  have T0 : TA m0 h₀ c Pl #[] (topL [none, (some (.str ⟨[13, 10].toArray⟩ t0)), none, none, none, none, none, none, none, none, none, (m0 (Str.ofString "__name__")), none, none, none, none, none, none, none, none, none, none, none]) [] h0 := T'
  refine wpAny_execs_cons ?_
  conv => arg 3; arg 1; whnf
  refine tx_assign B T0 (V := fun v _ => IsS [10] v) (ev_str (a := [10])) fun v g1 h1 tk1 hv e1 T' kb1 => ?_
  obtain ⟨t1, rfl⟩ := hv
  have T1 : TA m0 h₀ c Pl #[] (topL [none, (some (.str ⟨[13, 10].toArray⟩ t0)), (some (.str ⟨[10].toArray⟩ t1)), none, none, none, none, none, none, none, none, (m0 (Str.ofString "__name__")), none, none, none, none, none, none, none, none, none, none, none]) [] h1 := T'
  refine wpAny_execs_cons ?_
  conv => arg 3; arg 1; whnf
  refine tx_assign B T1 (ev_map hh F02X_eq (ev_modB B T1 (hrng _ rfl) hbr)) fun v g2 h2 tk2 hv e2 T' kb2 => ?_
  obtain ⟨M, oM, rfl, nM, qM, tabM⟩ := hv
  have T2a : TA m0 h₀ c Pl #[] (topL [none, (some (.str ⟨[13, 10].toArray⟩ t0)), (some (.str ⟨[10].toArray⟩ t1)), (some (.ref M)), none, none, none, none, none, none, none, (m0 (Str.ofString "__name__")), none, none, none, none, none, none, none, none, none, none, none]) [] h2 := T'
  have neM := (T1.lt nM).2.2.2
  have T2 : TA m0 h₀ c Pl #[] (topL [none, (some (.str ⟨[13, 10].toArray⟩ t0)), (some (.str ⟨[10].toArray⟩ t1)), (some (.ref M)), none, none, none, none, none, none, none, (m0 (Str.ofString "__name__")), none, none, none, none, none, none, none, none, none, none, none]) [(M, oM)] h2 := TA.adds T1 T2a [(M, oM)] (by intro p hp; rw [List.mem_singleton.mp hp]; exact ⟨nM, kb2 _ _ (by simpa using (T1.lt nM).1) qM⟩)
  refine wpAny_execs_cons ?_
  conv => arg 3; arg 1; whnf
  refine tx_assign B T2 (ev_copy T2 rfl (T2.kept (M, oM) (by simp)) tabM) fun v g3 h3 tk3 hv e3 T' kb3 => ?_
  obtain ⟨H, oH, rfl, nH, qH, tabH⟩ := hv
  have T3a : TA m0 h₀ c Pl #[] (topL [none, (some (.str ⟨[13, 10].toArray⟩ t0)), (some (.str ⟨[10].toArray⟩ t1)), (some (.ref M)), (some (.ref H)), none, none, none, none, none, none, (m0 (Str.ofString "__name__")), none, none, none, none, none, none, none, none, none, none, none]) [(M, oM)] h3 := T'
  have neH := (T2.lt nH).2.2.2
  have T3 : TA m0 h₀ c Pl #[] (topL [none, (some (.str ⟨[13, 10].toArray⟩ t0)), (some (.str ⟨[10].toArray⟩ t1)), (some (.ref M)), (some (.ref H)), none, none, none, none, none, none, (m0 (Str.ofString "__name__")), none, none, none, none, none, none, none, none, none, none, none]) [(H, oH), (M, oM)] h3 := TA.adds T2 T3a [(H, oH)] (by intro p hp; rw [List.mem_singleton.mp hp]; exact ⟨nH, kb3 _ _ (by simpa using (T2.lt nH).1) qH⟩)
  refine wpAny_execs_cons ?_
  conv => arg 3; arg 1; whnf
  refine tx_assign B T3 (ev_copy T3 rfl (T3.kept (M, oM) (by simp)) tabM) fun v g4 h4 tk4 hv e4 T' kb4 => ?_
  obtain ⟨Y, oY, rfl, nY, qY, tabY⟩ := hv
  have T4a : TA m0 h₀ c Pl #[] (topL [none, (some (.str ⟨[13, 10].toArray⟩ t0)), (some (.str ⟨[10].toArray⟩ t1)), (some (.ref M)), (some (.ref H)), (some (.ref Y)), none, none, none, none, none, (m0 (Str.ofString "__name__")), none, none, none, none, none, none, none, none, none, none, none]) [(H, oH), (M, oM)] h4 := T'
  have neY := (T3.lt nY).2.2.2
  have T4 : TA m0 h₀ c Pl #[] (topL [none, (some (.str ⟨[13, 10].toArray⟩ t0)), (some (.str ⟨[10].toArray⟩ t1)), (some (.ref M)), (some (.ref H)), (some (.ref Y)), none, none, none, none, none, (m0 (Str.ofString "__name__")), none, none, none, none, none, none, none, none, none, none, none]) [(Y, oY), (H, oH), (M, oM)] h4 := TA.adds T3 T4a [(Y, oY)] (by intro p hp; rw [List.mem_singleton.mp hp]; exact ⟨nY, kb4 _ _ (by simpa using (T3.lt nY).1) qY⟩)
  refine wpAny_execs_cons ?_
  conv => arg 3; arg 1; whnf
  refine tx_assign B T4 (V := fun v _ => IsS lowL v) (ev_str (a := lowL)) fun v g5 h5 tk5 hv e5 T' kb5 => ?_
  obtain ⟨t5, rfl⟩ := hv
  have T5 : TA m0 h₀ c Pl #[] (topL [none, (some (.str ⟨[13, 10].toArray⟩ t0)), (some (.str ⟨[10].toArray⟩ t1)), (some (.ref M)), (some (.ref H)), (some (.ref Y)), (some (.str ⟨lowL.toArray⟩ t5)), none, none, none, none, (m0 (Str.ofString "__name__")), none, none, none, none, none, none, none, none, none, none, none]) [(Y, oY), (H, oH), (M, oM)] h5 := T'
  refine wpAny_execs_cons ?_
  conv => arg 3; arg 1; whnf
  refine tx_assign B T5 (V := fun v _ => IsS upL v) (ev_str (a := upL)) fun v g6 h6 tk6 hv e6 T' kb6 => ?_
  obtain ⟨t6, rfl⟩ := hv
  have T6 : TA m0 h₀ c Pl #[] (topL [none, (some (.str ⟨[13, 10].toArray⟩ t0)), (some (.str ⟨[10].toArray⟩ t1)), (some (.ref M)), (some (.ref H)), (some (.ref Y)), (some (.str ⟨lowL.toArray⟩ t5)), (some (.str ⟨upL.toArray⟩ t6)), none, none, none, (m0 (Str.ofString "__name__")), none, none, none, none, none, none, none, none, none, none, none]) [(Y, oY), (H, oH), (M, oM)] h6 := T'
  refine wpAny_execs_cons ?_
  conv => arg 3; arg 1; whnf
  refine tx_assign B T6 (V := fun v _ => IsS (lowL ++ upL) v) (add_str (a := lowL) (b := upL) (ev_modS T6 rfl) (ev_modS T6 rfl) (by rw [sizeLine_eq]; decide)) fun v g7 h7 tk7 hv e7 T' kb7 => ?_
  obtain ⟨t7, rfl⟩ := hv
  have T7 : TA m0 h₀ c Pl #[] (topL [none, (some (.str ⟨[13, 10].toArray⟩ t0)), (some (.str ⟨[10].toArray⟩ t1)), (some (.ref M)), (some (.ref H)), (some (.ref Y)), (some (.str ⟨lowL.toArray⟩ t5)), (some (.str ⟨upL.toArray⟩ t6)), (some (.str ⟨(lowL ++ upL).toArray⟩ t7)), none, none, (m0 (Str.ofString "__name__")), none, none, none, none, none, none, none, none, none, none, none]) [(Y, oY), (H, oH), (M, oM)] h7 := T'
  refine wpAny_execs_cons ?_
  conv => arg 3; arg 1; whnf
  refine tx_assign B T7 (V := fun v _ => IsS digL v) (ev_str (a := digL)) fun v g8 h8 tk8 hv e8 T' kb8 => ?_
  obtain ⟨t8, rfl⟩ := hv
  have T8 : TA m0 h₀ c Pl #[] (topL [none, (some (.str ⟨[13, 10].toArray⟩ t0)), (some (.str ⟨[10].toArray⟩ t1)), (some (.ref M)), (some (.ref H)), (some (.ref Y)), (some (.str ⟨lowL.toArray⟩ t5)), (some (.str ⟨upL.toArray⟩ t6)), (some (.str ⟨(lowL ++ upL).toArray⟩ t7)), (some (.str ⟨digL.toArray⟩ t8)), none, (m0 (Str.ofString "__name__")), none, none, none, none, none, none, none, none, none, none, none]) [(Y, oY), (H, oH), (M, oM)] h8 := T'
  refine wpAny_execs_cons ?_
  conv => arg 3; arg 1; whnf
  refine tx_assign B T8 (V := fun v _ => IsS (digL ++ [97, 98, 99, 100, 101, 102] ++ [65, 66, 67, 68, 69, 70]) v) (add_str (a := digL ++ [97, 98, 99, 100, 101, 102]) (b := [65, 66, 67, 68, 69, 70]) (add_str (a := digL) (b := [97, 98, 99, 100, 101, 102]) (ev_modS T8 rfl) ev_str (by rw [sizeLine_eq]; decide)) ev_str (by rw [sizeLine_eq]; decide)) fun v g9 h9 tk9 hv e9 T' kb9 => ?_
  obtain ⟨t9, rfl⟩ := hv
  have T9 : TA m0 h₀ c Pl #[] (topL [none, (some (.str ⟨[13, 10].toArray⟩ t0)), (some (.str ⟨[10].toArray⟩ t1)), (some (.ref M)), (some (.ref H)), (some (.ref Y)), (some (.str ⟨lowL.toArray⟩ t5)), (some (.str ⟨upL.toArray⟩ t6)), (some (.str ⟨(lowL ++ upL).toArray⟩ t7)), (some (.str ⟨digL.toArray⟩ t8)), (some (.str ⟨(digL ++ [97, 98, 99, 100, 101, 102] ++ [65, 66, 67, 68, 69, 70]).toArray⟩ t9)), (m0 (Str.ofString "__name__")), none, none, none, none, none, none, none, none, none, none, none]) [(Y, oY), (H, oH), (M, oM)] h9 := T'
  refine wpAny_execs_cons ?_
  conv => arg 3; arg 1; whnf
  refine tx_assign B T9 (V := fun v _ => IsS nm1 v) (ev_str (a := nm1)) fun v g10 h10 tk10 hv e10 T' kb10 => ?_
  obtain ⟨t10, rfl⟩ := hv
  have T10 : TA m0 h₀ c Pl #[] (topL [none, (some (.str ⟨[13, 10].toArray⟩ t0)), (some (.str ⟨[10].toArray⟩ t1)), (some (.ref M)), (some (.ref H)), (some (.ref Y)), (some (.str ⟨lowL.toArray⟩ t5)), (some (.str ⟨upL.toArray⟩ t6)), (some (.str ⟨(lowL ++ upL).toArray⟩ t7)), (some (.str ⟨digL.toArray⟩ t8)), (some (.str ⟨(digL ++ [97, 98, 99, 100, 101, 102] ++ [65, 66, 67, 68, 69, 70]).toArray⟩ t9)), (some (.str ⟨nm1.toArray⟩ t10)), none, none, none, none, none, none, none, none, none, none, none]) [(Y, oY), (H, oH), (M, oM)] h10 := T'
  have T10s := T10.swap
  have neH2 : H ∉ [(Y, oY), (M, oM)].map (·.1) := by
    simp only [List.map_cons, List.map_nil, List.mem_cons, List.not_mem_nil, or_false, not_or] at neY neH ⊢
    exact ⟨fun e => neY.1 e.symm, neH⟩
  refine wpAny_execs_cons ?_
  conv => arg 3; arg 1; whnf
  refine tx_tab (d := Str.ofString "_QUOPRI_HEADER_MAP") B T10s hh (ev_addB (a := [45, 33, 42, 43, 47] ++ bytesOf (lowL ++ upL)) (b := bytesOf digL) (ev_addB (a := [45, 33, 42, 43, 47]) (b := bytesOf (lowL ++ upL)) ev_bytes (ev_encode enc_letters (by rw [sizeLine_eq]; decide) (ev_modS T10s rfl)) (by decide)) (ev_encode enc_digits (by rw [sizeLine_eq]; decide) (ev_modS T10s rfl)) (by decide)) rfl rfl rfl (hchr0 _ rfl) hbc tabH neH2 fun v11 oH11 h11 tk11 hv11 T' tabH11 => ?_
  have T11 : TA m0 h₀ c Pl #[] (topL [v11, (some (.str ⟨[13, 10].toArray⟩ t0)), (some (.str ⟨[10].toArray⟩ t1)), (some (.ref M)), (some (.ref H)), (some (.ref Y)), (some (.str ⟨lowL.toArray⟩ t5)), (some (.str ⟨upL.toArray⟩ t6)), (some (.str ⟨(lowL ++ upL).toArray⟩ t7)), (some (.str ⟨digL.toArray⟩ t8)), (some (.str ⟨(digL ++ [97, 98, 99, 100, 101, 102] ++ [65, 66, 67, 68, 69, 70]).toArray⟩ t9)), (some (.str ⟨nm1.toArray⟩ t10)), none, none, none, none, none, none, none, none, none, none, none]) [(H, oH11), (Y, oY), (M, oM)] h11 := T'
  refine wpAny_execs_cons ?_
  conv => arg 3; arg 1; whnf
  refine tx_set (k₀ := 32) (a := [95]) B T11 rfl tabH11 neH2 (by decide) (ev_ord (c := 32) (ev_modB B T11 (hord0 _ rfl) hbo) (ev_str (a := [32]))) (ev_str (a := [95])) fun oH12 h12 tk12 T' tabH12 kb12 => ?_
  have T12 : TA m0 h₀ c Pl #[] (topL [v11, (some (.str ⟨[13, 10].toArray⟩ t0)), (some (.str ⟨[10].toArray⟩ t1)), (some (.ref M)), (some (.ref H)), (some (.ref Y)), (some (.str ⟨lowL.toArray⟩ t5)), (some (.str ⟨upL.toArray⟩ t6)), (some (.str ⟨(lowL ++ upL).toArray⟩ t7)), (some (.str ⟨digL.toArray⟩ t8)), (some (.str ⟨(digL ++ [97, 98, 99, 100, 101, 102] ++ [65, 66, 67, 68, 69, 70]).toArray⟩ t9)), (some (.str ⟨nm1.toArray⟩ t10)), none, none, none, none, none, none, none, none, none, none, none]) [(H, oH12), (Y, oY), (M, oM)] h12 := T'
  have T12d := T12.drop
  refine wpAny_execs_cons ?_
  conv => arg 3; arg 1; whnf
  refine tx_tab (d := Str.ofString "_QUOPRI_BODY_MAP") B T12d hh (ev_bytes (b := bodyB)) rfl rfl rfl (hchr0 _ rfl) hbc tabY (show Y ∉ [(M, oM)].map (·.1) by simp only [List.map_cons, List.map_nil, List.mem_cons, List.not_mem_nil, or_false, not_or] at neY ⊢; exact neY.2) fun v13 oY13 h13 tk13 hv13 T' tabY13 => ?_
  have T13 : TA m0 h₀ c Pl #[] (topL [v13, (some (.str ⟨[13, 10].toArray⟩ t0)), (some (.str ⟨[10].toArray⟩ t1)), (some (.ref M)), (some (.ref H)), (some (.ref Y)), (some (.str ⟨lowL.toArray⟩ t5)), (some (.str ⟨upL.toArray⟩ t6)), (some (.str ⟨(lowL ++ upL).toArray⟩ t7)), (some (.str ⟨digL.toArray⟩ t8)), (some (.str ⟨(digL ++ [97, 98, 99, 100, 101, 102] ++ [65, 66, 67, 68, 69, 70]).toArray⟩ t9)), (some (.str ⟨nm1.toArray⟩ t10)), none, none, none, none, none, none, none, none, none, none, none]) [(Y, oY13), (M, oM)] h13 := T'
  refine wpAny_execs_cons ?_
  rw [def14]
  refine tx_def B T13 (Co.pure (V := fun vs => vs = []) rfl) (fun a14 c14 P14 co14 doc14 pm14 dV14 vs14 fsd14 h14 tk14 ps14 nP14 hps14 hvs14 hd14 hC14 T' => ?_) LTab.nil (by decide)
  obtain ⟨rfl, rfl, rfl⟩ : vs14 = [] ∧ dV14 = .none ∧ fsd14 = [] := by
    rcases hd14 with q | ⟨_, q, _⟩
    · exact q
    · exact absurd hvs14 q
  have T14 : TA m0 h₀ c Pl ps14 (topL [v13, (some (.str ⟨[13, 10].toArray⟩ t0)), (some (.str ⟨[10].toArray⟩ t1)), (some (.ref M)), (some (.ref H)), (some (.ref Y)), (some (.str ⟨lowL.toArray⟩ t5)), (some (.str ⟨upL.toArray⟩ t6)), (some (.str ⟨(lowL ++ upL).toArray⟩ t7)), (some (.str ⟨digL.toArray⟩ t8)), (some (.str ⟨(digL ++ [97, 98, 99, 100, 101, 102] ++ [65, 66, 67, 68, 69, 70]).toArray⟩ t9)), (some (.str ⟨nm1.toArray⟩ t10)), (some (.ref a14)), none, none, none, none, none, none, none, none, none, none]) [(a14, fnObj (Str.ofString "unquote") (fArgs (stAt 14)) (fBody (stAt 14)) (fScope (stAt 14)) .none pm14 c14 doc14), (c14, co14), (P14, tabObj #[]), (Y, oY13), (M, oM)] h14 := T'
  refine wpAny_execs_cons ?_
  rw [def15]
  refine tx_def B T14 (Co.pure (V := fun vs => vs = []) rfl) (fun a15 c15 P15 co15 doc15 pm15 dV15 vs15 fsd15 h15 tk15 ps15 nP15 hps15 hvs15 hd15 hC15 T' => ?_) hps14 (by decide)
  obtain ⟨rfl, rfl, rfl⟩ : vs15 = [] ∧ dV15 = .none ∧ fsd15 = [] := by
    rcases hd15 with q | ⟨_, q, _⟩
    · exact q
    · exact absurd hvs15 q
  have T15 : TA m0 h₀ c Pl ps15 (topL [v13, (some (.str ⟨[13, 10].toArray⟩ t0)), (some (.str ⟨[10].toArray⟩ t1)), (some (.ref M)), (some (.ref H)), (some (.ref Y)), (some (.str ⟨lowL.toArray⟩ t5)), (some (.str ⟨upL.toArray⟩ t6)), (some (.str ⟨(lowL ++ upL).toArray⟩ t7)), (some (.str ⟨digL.toArray⟩ t8)), (some (.str ⟨(digL ++ [97, 98, 99, 100, 101, 102] ++ [65, 66, 67, 68, 69, 70]).toArray⟩ t9)), (some (.str ⟨nm1.toArray⟩ t10)), (some (.ref a14)), (some (.ref a15)), none, none, none, none, none, none, none, none, none]) [(a15, fnObj (Str.ofString "quote") (fArgs (stAt 15)) (fBody (stAt 15)) (fScope (stAt 15)) .none pm15 c15 doc15), (c15, co15), (P15, tabObj #[]), (a14, fnObj (Str.ofString "unquote") (fArgs (stAt 14)) (fBody (stAt 14)) (fScope (stAt 14)) .none pm14 c14 doc14), (c14, co14), (P14, tabObj #[]), (Y, oY13), (M, oM)] h15 := T'
  refine wpAny_execs_cons ?_
  conv => arg 3; arg 1; whnf
  refine tx_assign B T15 (ev_copy T15 rfl (T15.kept (Y, oY13) (by simp)) tabY13) fun v g16 h16 tk16 hv e16 T' kb16 => ?_
  obtain ⟨Z, oZ, rfl, nZ, qZ, tabZ⟩ := hv
  have T16a : TA m0 h₀ c Pl ps15 (topL [v13, (some (.str ⟨[13, 10].toArray⟩ t0)), (some (.str ⟨[10].toArray⟩ t1)), (some (.ref M)), (some (.ref H)), (some (.ref Y)), (some (.str ⟨lowL.toArray⟩ t5)), (some (.str ⟨upL.toArray⟩ t6)), (some (.str ⟨(lowL ++ upL).toArray⟩ t7)), (some (.str ⟨digL.toArray⟩ t8)), (some (.str ⟨(digL ++ [97, 98, 99, 100, 101, 102] ++ [65, 66, 67, 68, 69, 70]).toArray⟩ t9)), (some (.str ⟨nm1.toArray⟩ t10)), (some (.ref a14)), (some (.ref a15)), (some (.ref Z)), none, none, none, none, none, none, none, none]) [(a15, fnObj (Str.ofString "quote") (fArgs (stAt 15)) (fBody (stAt 15)) (fScope (stAt 15)) .none pm15 c15 doc15), (c15, co15), (P15, tabObj #[]), (a14, fnObj (Str.ofString "unquote") (fArgs (stAt 14)) (fBody (stAt 14)) (fScope (stAt 14)) .none pm14 c14 doc14), (c14, co14), (P14, tabObj #[]), (Y, oY13), (M, oM)] h16 := T'
  have neZ := (T15.lt nZ).2.2.2
  have T16 : TA m0 h₀ c Pl ps15 (topL [v13, (some (.str ⟨[13, 10].toArray⟩ t0)), (some (.str ⟨[10].toArray⟩ t1)), (some (.ref M)), (some (.ref H)), (some (.ref Y)), (some (.str ⟨lowL.toArray⟩ t5)), (some (.str ⟨upL.toArray⟩ t6)), (some (.str ⟨(lowL ++ upL).toArray⟩ t7)), (some (.str ⟨digL.toArray⟩ t8)), (some (.str ⟨(digL ++ [97, 98, 99, 100, 101, 102] ++ [65, 66, 67, 68, 69, 70]).toArray⟩ t9)), (some (.str ⟨nm1.toArray⟩ t10)), (some (.ref a14)), (some (.ref a15)), (some (.ref Z)), none, none, none, none, none, none, none, none]) [(Z, oZ), (a15, fnObj (Str.ofString "quote") (fArgs (stAt 15)) (fBody (stAt 15)) (fScope (stAt 15)) .none pm15 c15 doc15), (c15, co15), (P15, tabObj #[]), (a14, fnObj (Str.ofString "unquote") (fArgs (stAt 14)) (fBody (stAt 14)) (fScope (stAt 14)) .none pm14 c14 doc14), (c14, co14), (P14, tabObj #[]), (Y, oY13), (M, oM)] h16 := TA.adds T15 T16a [(Z, oZ)] (by intro p hp; rw [List.mem_singleton.mp hp]; exact ⟨nZ, kb16 _ _ (by simpa using (T15.lt nZ).1) qZ⟩)
  refine wpAny_execs_cons ?_
  conv => arg 3; arg 1; whnf
  refine tx_tab (d := Str.ofString "_QUOPRI_BODY_ENCODE_MAP") B T16 hh (ev_bytes (b := [13, 10])) rfl rfl rfl (hchr0 _ rfl) hbc tabZ neZ fun v17 oZ17 h17 tk17 hv17 T' tabZ17 => ?_
  have T17 : TA m0 h₀ c Pl ps15 (topL [v17, (some (.str ⟨[13, 10].toArray⟩ t0)), (some (.str ⟨[10].toArray⟩ t1)), (some (.ref M)), (some (.ref H)), (some (.ref Y)), (some (.str ⟨lowL.toArray⟩ t5)), (some (.str ⟨upL.toArray⟩ t6)), (some (.str ⟨(lowL ++ upL).toArray⟩ t7)), (some (.str ⟨digL.toArray⟩ t8)), (some (.str ⟨(digL ++ [97, 98, 99, 100, 101, 102] ++ [65, 66, 67, 68, 69, 70]).toArray⟩ t9)), (some (.str ⟨nm1.toArray⟩ t10)), (some (.ref a14)), (some (.ref a15)), (some (.ref Z)), none, none, none, none, none, none, none, none]) [(Z, oZ17), (a15, fnObj (Str.ofString "quote") (fArgs (stAt 15)) (fBody (stAt 15)) (fScope (stAt 15)) .none pm15 c15 doc15), (c15, co15), (P15, tabObj #[]), (a14, fnObj (Str.ofString "unquote") (fArgs (stAt 14)) (fBody (stAt 14)) (fScope (stAt 14)) .none pm14 c14 doc14), (c14, co14), (P14, tabObj #[]), (Y, oY13), (M, oM)] h17 := T'
  obtain ⟨u17, rfl⟩ := hv17 (by simp)
  refine wpAny_execs_cons ?_
  conv => arg 3; arg 1; whnf
  refine tx_del (v := u17) B T17 rfl fun u18 h18 tk18 T' => ?_
  have T18 : TA m0 h₀ c Pl ps15 (topL [u18, (some (.str ⟨[13, 10].toArray⟩ t0)), (some (.str ⟨[10].toArray⟩ t1)), (some (.ref M)), (some (.ref H)), (some (.ref Y)), (some (.str ⟨lowL.toArray⟩ t5)), (some (.str ⟨upL.toArray⟩ t6)), (some (.str ⟨(lowL ++ upL).toArray⟩ t7)), (some (.str ⟨digL.toArray⟩ t8)), (some (.str ⟨(digL ++ [97, 98, 99, 100, 101, 102] ++ [65, 66, 67, 68, 69, 70]).toArray⟩ t9)), (some (.str ⟨nm1.toArray⟩ t10)), (some (.ref a14)), (some (.ref a15)), (some (.ref Z)), none, none, none, none, none, none, none, none]) [(Z, oZ17), (a15, fnObj (Str.ofString "quote") (fArgs (stAt 15)) (fBody (stAt 15)) (fScope (stAt 15)) .none pm15 c15 doc15), (c15, co15), (P15, tabObj #[]), (a14, fnObj (Str.ofString "unquote") (fArgs (stAt 14)) (fBody (stAt 14)) (fScope (stAt 14)) .none pm14 c14 doc14), (c14, co14), (P14, tabObj #[]), (Y, oY13), (M, oM)] h18 := T'
  refine wpAny_execs_cons ?_
  rw [def19]
  refine tx_def B T18 (ev_dflt2 (ev_int (i := 76)) (ev_modS T18 rfl)) (fun a19 c19 P19 co19 doc19 pm19 dV19 vs19 fsd19 h19 tk19 ps19 nP19 hps19 hvs19 hd19 hC19 T' => ?_) hps15 (by decide)
  obtain ⟨v19a, v19b, ⟨t19a, rfl⟩, ⟨t19b, rfl⟩, rfl⟩ := hvs19
  obtain ⟨D19, rfl, rfl⟩ : ∃ D, dV19 = .ref D ∧ fsd19 = [(D, { cls := .type "tuple", data := .seq ([.int 76 t19a, .str ⟨[10].toArray⟩ t19b]).toArray })] := by
    rcases hd19 with ⟨q, _⟩ | ⟨D, _, q1, q2⟩
    · cases q
    · exact ⟨D, q1, q2⟩
  have T19 : TA m0 h₀ c Pl ps19 (topL [u18, (some (.str ⟨[13, 10].toArray⟩ t0)), (some (.str ⟨[10].toArray⟩ t1)), (some (.ref M)), (some (.ref H)), (some (.ref Y)), (some (.str ⟨lowL.toArray⟩ t5)), (some (.str ⟨upL.toArray⟩ t6)), (some (.str ⟨(lowL ++ upL).toArray⟩ t7)), (some (.str ⟨digL.toArray⟩ t8)), (some (.str ⟨(digL ++ [97, 98, 99, 100, 101, 102] ++ [65, 66, 67, 68, 69, 70]).toArray⟩ t9)), (some (.str ⟨nm1.toArray⟩ t10)), (some (.ref a14)), (some (.ref a15)), (some (.ref Z)), (some (.ref a19)), none, none, none, none, none, none, none]) [(a19, fnObj (Str.ofString "body_encode") (fArgs (stAt 19)) (fBody (stAt 19)) (fScope (stAt 19)) (.ref D19) pm19 c19 doc19), (c19, co19), (P19, tabObj #[]), (D19, { cls := .type "tuple", data := .seq ([.int 76 t19a, .str ⟨[10].toArray⟩ t19b]).toArray }), (Z, oZ17), (a15, fnObj (Str.ofString "quote") (fArgs (stAt 15)) (fBody (stAt 15)) (fScope (stAt 15)) .none pm15 c15 doc15), (c15, co15), (P15, tabObj #[]), (a14, fnObj (Str.ofString "unquote") (fArgs (stAt 14)) (fBody (stAt 14)) (fScope (stAt 14)) .none pm14 c14 doc14), (c14, co14), (P14, tabObj #[]), (Y, oY13), (M, oM)] h19 := T'
  refine wpAny_execs_cons ?_
  rw [def20]
  refine tx_def B T19 (ev_dflt1 (ev_modS T19 rfl)) (fun a20 c20 P20 co20 doc20 pm20 dV20 vs20 fsd20 h20 tk20 ps20 nP20 hps20 hvs20 hd20 hC20 T' => ?_) hps19 (by decide)
  obtain ⟨v20a, ⟨t20a, rfl⟩, rfl⟩ := hvs20
  obtain ⟨D20, rfl, rfl⟩ : ∃ D, dV20 = .ref D ∧ fsd20 = [(D, { cls := .type "tuple", data := .seq ([.str ⟨[10].toArray⟩ t20a]).toArray })] := by
    rcases hd20 with ⟨q, _⟩ | ⟨D, _, q1, q2⟩
    · cases q
    · exact ⟨D, q1, q2⟩
  have T20 : TA m0 h₀ c Pl ps20 (topL [u18, (some (.str ⟨[13, 10].toArray⟩ t0)), (some (.str ⟨[10].toArray⟩ t1)), (some (.ref M)), (some (.ref H)), (some (.ref Y)), (some (.str ⟨lowL.toArray⟩ t5)), (some (.str ⟨upL.toArray⟩ t6)), (some (.str ⟨(lowL ++ upL).toArray⟩ t7)), (some (.str ⟨digL.toArray⟩ t8)), (some (.str ⟨(digL ++ [97, 98, 99, 100, 101, 102] ++ [65, 66, 67, 68, 69, 70]).toArray⟩ t9)), (some (.str ⟨nm1.toArray⟩ t10)), (some (.ref a14)), (some (.ref a15)), (some (.ref Z)), (some (.ref a19)), (some (.ref a20)), none, none, none, none, none, none]) [(a20, fnObj (Str.ofString "decode") (fArgs (stAt 20)) (fBody (stAt 20)) (fScope (stAt 20)) (.ref D20) pm20 c20 doc20), (c20, co20), (P20, tabObj #[]), (D20, { cls := .type "tuple", data := .seq ([.str ⟨[10].toArray⟩ t20a]).toArray }), (a19, fnObj (Str.ofString "body_encode") (fArgs (stAt 19)) (fBody (stAt 19)) (fScope (stAt 19)) (.ref D19) pm19 c19 doc19), (c19, co19), (P19, tabObj #[]), (D19, { cls := .type "tuple", data := .seq ([.int 76 t19a, .str ⟨[10].toArray⟩ t19b]).toArray }), (Z, oZ17), (a15, fnObj (Str.ofString "quote") (fArgs (stAt 15)) (fBody (stAt 15)) (fScope (stAt 15)) .none pm15 c15 doc15), (c15, co15), (P15, tabObj #[]), (a14, fnObj (Str.ofString "unquote") (fArgs (stAt 14)) (fBody (stAt 14)) (fScope (stAt 14)) .none pm14 c14 doc14), (c14, co14), (P14, tabObj #[]), (Y, oY13), (M, oM)] h20 := T'
  refine wpAny_execs_cons ?_
  conv => arg 3; arg 1; whnf
  refine tx_assign B T20 (V := fun v _ => IsS nm2 v) (ev_str (a := nm2)) fun v g21 h21 tk21 hv e21 T' kb21 => ?_
  obtain ⟨t21, rfl⟩ := hv
  have T21 : TA m0 h₀ c Pl ps20 (topL [u18, (some (.str ⟨[13, 10].toArray⟩ t0)), (some (.str ⟨[10].toArray⟩ t1)), (some (.ref M)), (some (.ref H)), (some (.ref Y)), (some (.str ⟨lowL.toArray⟩ t5)), (some (.str ⟨upL.toArray⟩ t6)), (some (.str ⟨(lowL ++ upL).toArray⟩ t7)), (some (.str ⟨digL.toArray⟩ t8)), (some (.str ⟨(digL ++ [97, 98, 99, 100, 101, 102] ++ [65, 66, 67, 68, 69, 70]).toArray⟩ t9)), (some (.str ⟨nm2.toArray⟩ t21)), (some (.ref a14)), (some (.ref a15)), (some (.ref Z)), (some (.ref a19)), (some (.ref a20)), none, none, none, none, none, none]) [(a20, fnObj (Str.ofString "decode") (fArgs (stAt 20)) (fBody (stAt 20)) (fScope (stAt 20)) (.ref D20) pm20 c20 doc20), (c20, co20), (P20, tabObj #[]), (D20, { cls := .type "tuple", data := .seq ([.str ⟨[10].toArray⟩ t20a]).toArray }), (a19, fnObj (Str.ofString "body_encode") (fArgs (stAt 19)) (fBody (stAt 19)) (fScope (stAt 19)) (.ref D19) pm19 c19 doc19), (c19, co19), (P19, tabObj #[]), (D19, { cls := .type "tuple", data := .seq ([.int 76 t19a, .str ⟨[10].toArray⟩ t19b]).toArray }), (Z, oZ17), (a15, fnObj (Str.ofString "quote") (fArgs (stAt 15)) (fBody (stAt 15)) (fScope (stAt 15)) .none pm15 c15 doc15), (c15, co15), (P15, tabObj #[]), (a14, fnObj (Str.ofString "unquote") (fArgs (stAt 14)) (fBody (stAt 14)) (fScope (stAt 14)) .none pm14 c14 doc14), (c14, co14), (P14, tabObj #[]), (Y, oY13), (M, oM)] h21 := T'
  refine wpAny_execs_cons ?_
  conv => arg 3; arg 1; whnf
  refine tx_assign B T21 (ev_object B T21 (hobj0 _ rfl) hbob) fun v g22 h22 tk22 hv e22 T' kb22 => ?_
  obtain ⟨X22, rfl⟩ := hv
  have T22 : TA m0 h₀ c Pl ps20 (topL [u18, (some (.str ⟨[13, 10].toArray⟩ t0)), (some (.str ⟨[10].toArray⟩ t1)), (some (.ref M)), (some (.ref H)), (some (.ref Y)), (some (.str ⟨lowL.toArray⟩ t5)), (some (.str ⟨upL.toArray⟩ t6)), (some (.str ⟨(lowL ++ upL).toArray⟩ t7)), (some (.str ⟨digL.toArray⟩ t8)), (some (.str ⟨(digL ++ [97, 98, 99, 100, 101, 102] ++ [65, 66, 67, 68, 69, 70]).toArray⟩ t9)), (some (.str ⟨nm2.toArray⟩ t21)), (some (.ref a14)), (some (.ref a15)), (some (.ref Z)), (some (.ref a19)), (some (.ref a20)), (some (.ref X22)), none, none, none, none, none]) [(a20, fnObj (Str.ofString "decode") (fArgs (stAt 20)) (fBody (stAt 20)) (fScope (stAt 20)) (.ref D20) pm20 c20 doc20), (c20, co20), (P20, tabObj #[]), (D20, { cls := .type "tuple", data := .seq ([.str ⟨[10].toArray⟩ t20a]).toArray }), (a19, fnObj (Str.ofString "body_encode") (fArgs (stAt 19)) (fBody (stAt 19)) (fScope (stAt 19)) (.ref D19) pm19 c19 doc19), (c19, co19), (P19, tabObj #[]), (D19, { cls := .type "tuple", data := .seq ([.int 76 t19a, .str ⟨[10].toArray⟩ t19b]).toArray }), (Z, oZ17), (a15, fnObj (Str.ofString "quote") (fArgs (stAt 15)) (fBody (stAt 15)) (fScope (stAt 15)) .none pm15 c15 doc15), (c15, co15), (P15, tabObj #[]), (a14, fnObj (Str.ofString "unquote") (fArgs (stAt 14)) (fBody (stAt 14)) (fScope (stAt 14)) .none pm14 c14 doc14), (c14, co14), (P14, tabObj #[]), (Y, oY13), (M, oM)] h22 := T'
  refine wpAny_execs_cons ?_
  rw [def23]
  refine tx_def B T22 (ev_dflt1 (ev_mod T22 rfl)) (fun a23 c23 P23 co23 doc23 pm23 dV23 vs23 fsd23 h23 tk23 ps23 nP23 hps23 hvs23 hd23 hC23 T' => ?_) hps20 (by decide)
  obtain ⟨v23a, rfl, rfl⟩ := hvs23
  obtain ⟨D23, rfl, rfl⟩ : ∃ D, dV23 = .ref D ∧ fsd23 = [(D, { cls := .type "tuple", data := .seq ([.ref X22]).toArray })] := by
    rcases hd23 with ⟨q, _⟩ | ⟨D, _, q1, q2⟩
    · cases q
    · exact ⟨D, q1, q2⟩
  have T23 : TA m0 h₀ c Pl ps23 (topL [u18, (some (.str ⟨[13, 10].toArray⟩ t0)), (some (.str ⟨[10].toArray⟩ t1)), (some (.ref M)), (some (.ref H)), (some (.ref Y)), (some (.str ⟨lowL.toArray⟩ t5)), (some (.str ⟨upL.toArray⟩ t6)), (some (.str ⟨(lowL ++ upL).toArray⟩ t7)), (some (.str ⟨digL.toArray⟩ t8)), (some (.str ⟨(digL ++ [97, 98, 99, 100, 101, 102] ++ [65, 66, 67, 68, 69, 70]).toArray⟩ t9)), (some (.str ⟨nm2.toArray⟩ t21)), (some (.ref a14)), (some (.ref a15)), (some (.ref Z)), (some (.ref a19)), (some (.ref a20)), (some (.ref X22)), (some (.ref a23)), none, none, none, none]) [(a23, fnObj (Str.ofString "reduce") (fArgs (stAt 23)) (fBody (stAt 23)) (fScope (stAt 23)) (.ref D23) pm23 c23 doc23), (c23, co23), (P23, tabObj #[]), (D23, { cls := .type "tuple", data := .seq ([.ref X22]).toArray }), (a20, fnObj (Str.ofString "decode") (fArgs (stAt 20)) (fBody (stAt 20)) (fScope (stAt 20)) (.ref D20) pm20 c20 doc20), (c20, co20), (P20, tabObj #[]), (D20, { cls := .type "tuple", data := .seq ([.str ⟨[10].toArray⟩ t20a]).toArray }), (a19, fnObj (Str.ofString "body_encode") (fArgs (stAt 19)) (fBody (stAt 19)) (fScope (stAt 19)) (.ref D19) pm19 c19 doc19), (c19, co19), (P19, tabObj #[]), (D19, { cls := .type "tuple", data := .seq ([.int 76 t19a, .str ⟨[10].toArray⟩ t19b]).toArray }), (Z, oZ17), (a15, fnObj (Str.ofString "quote") (fArgs (stAt 15)) (fBody (stAt 15)) (fScope (stAt 15)) .none pm15 c15 doc15), (c15, co15), (P15, tabObj #[]), (a14, fnObj (Str.ofString "unquote") (fArgs (stAt 14)) (fBody (stAt 14)) (fScope (stAt 14)) .none pm14 c14 doc14), (c14, co14), (P14, tabObj #[]), (Y, oY13), (M, oM)] h23 := T'
  refine wpAny_execs_cons ?_
  conv => arg 3; arg 1; whnf
  refine tx_assign B T23 (V := fun v _ => IsS nm3 v) (ev_str (a := nm3)) fun v g24 h24 tk24 hv e24 T' kb24 => ?_
  obtain ⟨t24, rfl⟩ := hv
  have T24 : TA m0 h₀ c Pl ps23 (topL [u18, (some (.str ⟨[13, 10].toArray⟩ t0)), (some (.str ⟨[10].toArray⟩ t1)), (some (.ref M)), (some (.ref H)), (some (.ref Y)), (some (.str ⟨lowL.toArray⟩ t5)), (some (.str ⟨upL.toArray⟩ t6)), (some (.str ⟨(lowL ++ upL).toArray⟩ t7)), (some (.str ⟨digL.toArray⟩ t8)), (some (.str ⟨(digL ++ [97, 98, 99, 100, 101, 102] ++ [65, 66, 67, 68, 69, 70]).toArray⟩ t9)), (some (.str ⟨nm3.toArray⟩ t24)), (some (.ref a14)), (some (.ref a15)), (some (.ref Z)), (some (.ref a19)), (some (.ref a20)), (some (.ref X22)), (some (.ref a23)), none, none, none, none]) [(a23, fnObj (Str.ofString "reduce") (fArgs (stAt 23)) (fBody (stAt 23)) (fScope (stAt 23)) (.ref D23) pm23 c23 doc23), (c23, co23), (P23, tabObj #[]), (D23, { cls := .type "tuple", data := .seq ([.ref X22]).toArray }), (a20, fnObj (Str.ofString "decode") (fArgs (stAt 20)) (fBody (stAt 20)) (fScope (stAt 20)) (.ref D20) pm20 c20 doc20), (c20, co20), (P20, tabObj #[]), (D20, { cls := .type "tuple", data := .seq ([.str ⟨[10].toArray⟩ t20a]).toArray }), (a19, fnObj (Str.ofString "body_encode") (fArgs (stAt 19)) (fBody (stAt 19)) (fScope (stAt 19)) (.ref D19) pm19 c19 doc19), (c19, co19), (P19, tabObj #[]), (D19, { cls := .type "tuple", data := .seq ([.int 76 t19a, .str ⟨[10].toArray⟩ t19b]).toArray }), (Z, oZ17), (a15, fnObj (Str.ofString "quote") (fArgs (stAt 15)) (fBody (stAt 15)) (fScope (stAt 15)) .none pm15 c15 doc15), (c15, co15), (P15, tabObj #[]), (a14, fnObj (Str.ofString "unquote") (fArgs (stAt 14)) (fBody (stAt 14)) (fScope (stAt 14)) .none pm14 c14 doc14), (c14, co14), (P14, tabObj #[]), (Y, oY13), (M, oM)] h24 := T'
  refine wpAny_execs_cons ?_
  rw [def25]
  refine tx_def B T24 (Co.pure (V := fun vs => vs = []) rfl) (fun a25 c25 P25 co25 doc25 pm25 dV25 vs25 fsd25 h25 tk25 ps25 nP25 hps25 hvs25 hd25 hC25 T' => ?_) hps23 (by decide)
  obtain ⟨rfl, rfl, rfl⟩ : vs25 = [] ∧ dV25 = .none ∧ fsd25 = [] := by
    rcases hd25 with q | ⟨_, q, _⟩
    · exact q
    · exact absurd hvs25 q
  have T25 : TA m0 h₀ c Pl ps25 (topL [u18, (some (.str ⟨[13, 10].toArray⟩ t0)), (some (.str ⟨[10].toArray⟩ t1)), (some (.ref M)), (some (.ref H)), (some (.ref Y)), (some (.str ⟨lowL.toArray⟩ t5)), (some (.str ⟨upL.toArray⟩ t6)), (some (.str ⟨(lowL ++ upL).toArray⟩ t7)), (some (.str ⟨digL.toArray⟩ t8)), (some (.str ⟨(digL ++ [97, 98, 99, 100, 101, 102] ++ [65, 66, 67, 68, 69, 70]).toArray⟩ t9)), (some (.str ⟨nm3.toArray⟩ t24)), (some (.ref a14)), (some (.ref a15)), (some (.ref Z)), (some (.ref a19)), (some (.ref a20)), (some (.ref X22)), (some (.ref a23)), (some (.ref a25)), none, none, none]) [(a25, fnObj (Str.ofString "_law_parts") (fArgs (stAt 25)) (fBody (stAt 25)) (fScope (stAt 25)) .none pm25 c25 doc25), (c25, co25), (P25, tabObj #[]), (a23, fnObj (Str.ofString "reduce") (fArgs (stAt 23)) (fBody (stAt 23)) (fScope (stAt 23)) (.ref D23) pm23 c23 doc23), (c23, co23), (P23, tabObj #[]), (D23, { cls := .type "tuple", data := .seq ([.ref X22]).toArray }), (a20, fnObj (Str.ofString "decode") (fArgs (stAt 20)) (fBody (stAt 20)) (fScope (stAt 20)) (.ref D20) pm20 c20 doc20), (c20, co20), (P20, tabObj #[]), (D20, { cls := .type "tuple", data := .seq ([.str ⟨[10].toArray⟩ t20a]).toArray }), (a19, fnObj (Str.ofString "body_encode") (fArgs (stAt 19)) (fBody (stAt 19)) (fScope (stAt 19)) (.ref D19) pm19 c19 doc19), (c19, co19), (P19, tabObj #[]), (D19, { cls := .type "tuple", data := .seq ([.int 76 t19a, .str ⟨[10].toArray⟩ t19b]).toArray }), (Z, oZ17), (a15, fnObj (Str.ofString "quote") (fArgs (stAt 15)) (fBody (stAt 15)) (fScope (stAt 15)) .none pm15 c15 doc15), (c15, co15), (P15, tabObj #[]), (a14, fnObj (Str.ofString "unquote") (fArgs (stAt 14)) (fBody (stAt 14)) (fScope (stAt 14)) .none pm14 c14 doc14), (c14, co14), (P14, tabObj #[]), (Y, oY13), (M, oM)] h25 := T'
  refine wpAny_execs_cons ?_
  rw [def26]
  refine tx_def B T25 (Co.pure (V := fun vs => vs = []) rfl) (fun a26 c26 P26 co26 doc26 pm26 dV26 vs26 fsd26 h26 tk26 ps26 nP26 hps26 hvs26 hd26 hC26 T' => ?_) hps25 (by decide)
  obtain ⟨rfl, rfl, rfl⟩ : vs26 = [] ∧ dV26 = .none ∧ fsd26 = [] := by
    rcases hd26 with q | ⟨_, q, _⟩
    · exact q
    · exact absurd hvs26 q
  have T26 : TA m0 h₀ c Pl ps26 (topL [u18, (some (.str ⟨[13, 10].toArray⟩ t0)), (some (.str ⟨[10].toArray⟩ t1)), (some (.ref M)), (some (.ref H)), (some (.ref Y)), (some (.str ⟨lowL.toArray⟩ t5)), (some (.str ⟨upL.toArray⟩ t6)), (some (.str ⟨(lowL ++ upL).toArray⟩ t7)), (some (.str ⟨digL.toArray⟩ t8)), (some (.str ⟨(digL ++ [97, 98, 99, 100, 101, 102] ++ [65, 66, 67, 68, 69, 70]).toArray⟩ t9)), (some (.str ⟨nm3.toArray⟩ t24)), (some (.ref a14)), (some (.ref a15)), (some (.ref Z)), (some (.ref a19)), (some (.ref a20)), (some (.ref X22)), (some (.ref a23)), (some (.ref a25)), (some (.ref a26)), none, none]) [(a26, fnObj (Str.ofString "_law_rows") (fArgs (stAt 26)) (fBody (stAt 26)) (fScope (stAt 26)) .none pm26 c26 doc26), (c26, co26), (P26, tabObj #[]), (a25, fnObj (Str.ofString "_law_parts") (fArgs (stAt 25)) (fBody (stAt 25)) (fScope (stAt 25)) .none pm25 c25 doc25), (c25, co25), (P25, tabObj #[]), (a23, fnObj (Str.ofString "reduce") (fArgs (stAt 23)) (fBody (stAt 23)) (fScope (stAt 23)) (.ref D23) pm23 c23 doc23), (c23, co23), (P23, tabObj #[]), (D23, { cls := .type "tuple", data := .seq ([.ref X22]).toArray }), (a20, fnObj (Str.ofString "decode") (fArgs (stAt 20)) (fBody (stAt 20)) (fScope (stAt 20)) (.ref D20) pm20 c20 doc20), (c20, co20), (P20, tabObj #[]), (D20, { cls := .type "tuple", data := .seq ([.str ⟨[10].toArray⟩ t20a]).toArray }), (a19, fnObj (Str.ofString "body_encode") (fArgs (stAt 19)) (fBody (stAt 19)) (fScope (stAt 19)) (.ref D19) pm19 c19 doc19), (c19, co19), (P19, tabObj #[]), (D19, { cls := .type "tuple", data := .seq ([.int 76 t19a, .str ⟨[10].toArray⟩ t19b]).toArray }), (Z, oZ17), (a15, fnObj (Str.ofString "quote") (fArgs (stAt 15)) (fBody (stAt 15)) (fScope (stAt 15)) .none pm15 c15 doc15), (c15, co15), (P15, tabObj #[]), (a14, fnObj (Str.ofString "unquote") (fArgs (stAt 14)) (fBody (stAt 14)) (fScope (stAt 14)) .none pm14 c14 doc14), (c14, co14), (P14, tabObj #[]), (Y, oY13), (M, oM)] h26 := T'
  refine wpAny_execs_cons ?_
  rw [def27]
  refine tx_def B T26 (Co.pure (V := fun vs => vs = []) rfl) (fun a27 c27 P27 co27 doc27 pm27 dV27 vs27 fsd27 h27 tk27 ps27 nP27 hps27 hvs27 hd27 hC27 T' => ?_) hps26 (by decide)
  obtain ⟨rfl, rfl, rfl⟩ : vs27 = [] ∧ dV27 = .none ∧ fsd27 = [] := by
    rcases hd27 with q | ⟨_, q, _⟩
    · exact q
    · exact absurd hvs27 q
  have T27 : TA m0 h₀ c Pl ps27 (topL [u18, (some (.str ⟨[13, 10].toArray⟩ t0)), (some (.str ⟨[10].toArray⟩ t1)), (some (.ref M)), (some (.ref H)), (some (.ref Y)), (some (.str ⟨lowL.toArray⟩ t5)), (some (.str ⟨upL.toArray⟩ t6)), (some (.str ⟨(lowL ++ upL).toArray⟩ t7)), (some (.str ⟨digL.toArray⟩ t8)), (some (.str ⟨(digL ++ [97, 98, 99, 100, 101, 102] ++ [65, 66, 67, 68, 69, 70]).toArray⟩ t9)), (some (.str ⟨nm3.toArray⟩ t24)), (some (.ref a14)), (some (.ref a15)), (some (.ref Z)), (some (.ref a19)), (some (.ref a20)), (some (.ref X22)), (some (.ref a23)), (some (.ref a25)), (some (.ref a26)), (some (.ref a27)), none]) [(a27, fnObj (Str.ofString "_law_raw") (fArgs (stAt 27)) (fBody (stAt 27)) (fScope (stAt 27)) .none pm27 c27 doc27), (c27, co27), (P27, tabObj #[]), (a26, fnObj (Str.ofString "_law_rows") (fArgs (stAt 26)) (fBody (stAt 26)) (fScope (stAt 26)) .none pm26 c26 doc26), (c26, co26), (P26, tabObj #[]), (a25, fnObj (Str.ofString "_law_parts") (fArgs (stAt 25)) (fBody (stAt 25)) (fScope (stAt 25)) .none pm25 c25 doc25), (c25, co25), (P25, tabObj #[]), (a23, fnObj (Str.ofString "reduce") (fArgs (stAt 23)) (fBody (stAt 23)) (fScope (stAt 23)) (.ref D23) pm23 c23 doc23), (c23, co23), (P23, tabObj #[]), (D23, { cls := .type "tuple", data := .seq ([.ref X22]).toArray }), (a20, fnObj (Str.ofString "decode") (fArgs (stAt 20)) (fBody (stAt 20)) (fScope (stAt 20)) (.ref D20) pm20 c20 doc20), (c20, co20), (P20, tabObj #[]), (D20, { cls := .type "tuple", data := .seq ([.str ⟨[10].toArray⟩ t20a]).toArray }), (a19, fnObj (Str.ofString "body_encode") (fArgs (stAt 19)) (fBody (stAt 19)) (fScope (stAt 19)) (.ref D19) pm19 c19 doc19), (c19, co19), (P19, tabObj #[]), (D19, { cls := .type "tuple", data := .seq ([.int 76 t19a, .str ⟨[10].toArray⟩ t19b]).toArray }), (Z, oZ17), (a15, fnObj (Str.ofString "quote") (fArgs (stAt 15)) (fBody (stAt 15)) (fScope (stAt 15)) .none pm15 c15 doc15), (c15, co15), (P15, tabObj #[]), (a14, fnObj (Str.ofString "unquote") (fArgs (stAt 14)) (fBody (stAt 14)) (fScope (stAt 14)) .none pm14 c14 doc14), (c14, co14), (P14, tabObj #[]), (Y, oY13), (M, oM)] h27 := T'
  refine wpAny_execs_cons ?_
  rw [def28]
  refine tx_def B T27 (Co.pure (V := fun vs => vs = []) rfl) (fun a28 c28 P28 co28 doc28 pm28 dV28 vs28 fsd28 h28 tk28 ps28 nP28 hps28 hvs28 hd28 hC28 T' => ?_) hps27 (by decide)
  obtain ⟨rfl, rfl, rfl⟩ : vs28 = [] ∧ dV28 = .none ∧ fsd28 = [] := by
    rcases hd28 with q | ⟨_, q, _⟩
    · exact q
    · exact absurd hvs28 q
  have T28 : TA m0 h₀ c Pl ps28 (topL [u18, (some (.str ⟨[13, 10].toArray⟩ t0)), (some (.str ⟨[10].toArray⟩ t1)), (some (.ref M)), (some (.ref H)), (some (.ref Y)), (some (.str ⟨lowL.toArray⟩ t5)), (some (.str ⟨upL.toArray⟩ t6)), (some (.str ⟨(lowL ++ upL).toArray⟩ t7)), (some (.str ⟨digL.toArray⟩ t8)), (some (.str ⟨(digL ++ [97, 98, 99, 100, 101, 102] ++ [65, 66, 67, 68, 69, 70]).toArray⟩ t9)), (some (.str ⟨nm3.toArray⟩ t24)), (some (.ref a14)), (some (.ref a15)), (some (.ref Z)), (some (.ref a19)), (some (.ref a20)), (some (.ref X22)), (some (.ref a23)), (some (.ref a25)), (some (.ref a26)), (some (.ref a27)), (some (.ref a28))]) [(a28, fnObj (Str.ofString "law") (fArgs (stAt 28)) (fBody (stAt 28)) (fScope (stAt 28)) .none pm28 c28 doc28), (c28, co28), (P28, tabObj #[]), (a27, fnObj (Str.ofString "_law_raw") (fArgs (stAt 27)) (fBody (stAt 27)) (fScope (stAt 27)) .none pm27 c27 doc27), (c27, co27), (P27, tabObj #[]), (a26, fnObj (Str.ofString "_law_rows") (fArgs (stAt 26)) (fBody (stAt 26)) (fScope (stAt 26)) .none pm26 c26 doc26), (c26, co26), (P26, tabObj #[]), (a25, fnObj (Str.ofString "_law_parts") (fArgs (stAt 25)) (fBody (stAt 25)) (fScope (stAt 25)) .none pm25 c25 doc25), (c25, co25), (P25, tabObj #[]), (a23, fnObj (Str.ofString "reduce") (fArgs (stAt 23)) (fBody (stAt 23)) (fScope (stAt 23)) (.ref D23) pm23 c23 doc23), (c23, co23), (P23, tabObj #[]), (D23, { cls := .type "tuple", data := .seq ([.ref X22]).toArray }), (a20, fnObj (Str.ofString "decode") (fArgs (stAt 20)) (fBody (stAt 20)) (fScope (stAt 20)) (.ref D20) pm20 c20 doc20), (c20, co20), (P20, tabObj #[]), (D20, { cls := .type "tuple", data := .seq ([.str ⟨[10].toArray⟩ t20a]).toArray }), (a19, fnObj (Str.ofString "body_encode") (fArgs (stAt 19)) (fBody (stAt 19)) (fScope (stAt 19)) (.ref D19) pm19 c19 doc19), (c19, co19), (P19, tabObj #[]), (D19, { cls := .type "tuple", data := .seq ([.int 76 t19a, .str ⟨[10].toArray⟩ t19b]).toArray }), (Z, oZ17), (a15, fnObj (Str.ofString "quote") (fArgs (stAt 15)) (fBody (stAt 15)) (fScope (stAt 15)) .none pm15 c15 doc15), (c15, co15), (P15, tabObj #[]), (a14, fnObj (Str.ofString "unquote") (fArgs (stAt 14)) (fBody (stAt 14)) (fScope (stAt 14)) .none pm14 c14 doc14), (c14, co14), (P14, tabObj #[]), (Y, oY13), (M, oM)] h28 := T'
  refine wpAny_execs_nil (k h28 tk28 ?_)
  refine ⟨_, _, _, _, _, _, _, _, _, T28, rfl, hC28, nP28, ?_⟩
  intro q hg hb hlim hq
  have fct : ∀ {a : Addr} {o : Obj}, (a, o) ∈ [(a28, fnObj (Str.ofString "law") (fArgs (stAt 28)) (fBody (stAt 28)) (fScope (stAt 28)) .none pm28 c28 doc28), (c28, co28), (a27, fnObj (Str.ofString "_law_raw") (fArgs (stAt 27)) (fBody (stAt 27)) (fScope (stAt 27)) .none pm27 c27 doc27), (c27, co27), (P27, tabObj #[]), (a26, fnObj (Str.ofString "_law_rows") (fArgs (stAt 26)) (fBody (stAt 26)) (fScope (stAt 26)) .none pm26 c26 doc26), (c26, co26), (P26, tabObj #[]), (a25, fnObj (Str.ofString "_law_parts") (fArgs (stAt 25)) (fBody (stAt 25)) (fScope (stAt 25)) .none pm25 c25 doc25), (c25, co25), (P25, tabObj #[]), (a23, fnObj (Str.ofString "reduce") (fArgs (stAt 23)) (fBody (stAt 23)) (fScope (stAt 23)) (.ref D23) pm23 c23 doc23), (c23, co23), (P23, tabObj #[]), (D23, { cls := .type "tuple", data := .seq ([.ref X22]).toArray }), (a20, fnObj (Str.ofString "decode") (fArgs (stAt 20)) (fBody (stAt 20)) (fScope (stAt 20)) (.ref D20) pm20 c20 doc20), (c20, co20), (P20, tabObj #[]), (D20, { cls := .type "tuple", data := .seq ([.str ⟨[10].toArray⟩ t20a]).toArray }), (a19, fnObj (Str.ofString "body_encode") (fArgs (stAt 19)) (fBody (stAt 19)) (fScope (stAt 19)) (.ref D19) pm19 c19 doc19), (c19, co19), (P19, tabObj #[]), (D19, { cls := .type "tuple", data := .seq ([.int 76 t19a, .str ⟨[10].toArray⟩ t19b]).toArray }), (Z, oZ17), (a15, fnObj (Str.ofString "quote") (fArgs (stAt 15)) (fBody (stAt 15)) (fScope (stAt 15)) .none pm15 c15 doc15), (c15, co15), (P15, tabObj #[]), (a14, fnObj (Str.ofString "unquote") (fArgs (stAt 14)) (fBody (stAt 14)) (fScope (stAt 14)) .none pm14 c14 doc14), (c14, co14), (P14, tabObj #[]), (Y, oY13), (M, oM)] → q.get? a = some o := fun {a o} h => hq (a, o) h
  obtain ⟨mi, hml, hmz, hmf⟩ := tabM.list (h := q) (D := M) (fct (by repeat (first | exact List.Mem.head _ | apply List.Mem.tail)))
  obtain ⟨zi, hzl, hzz, hzf⟩ := tabZ17.list (h := q) (D := Z) (fct (by repeat (first | exact List.Mem.head _ | apply List.Mem.tail)))
  have f14 : IsFn q a14 14 "unquote" .none := ⟨_, .none, doc14, pm14, none, .ref c14, .none, fct (a := a14) (by repeat (first | exact List.Mem.head _ | apply List.Mem.tail)), rfl, (hC14 q (fct (a := c14) (by repeat (first | exact List.Mem.head _ | apply List.Mem.tail)))).2⟩
  have f15 : IsFn q a15 15 "quote" .none := ⟨_, .none, doc15, pm15, none, .ref c15, .none, fct (a := a15) (by repeat (first | exact List.Mem.head _ | apply List.Mem.tail)), rfl, (hC15 q (fct (a := c15) (by repeat (first | exact List.Mem.head _ | apply List.Mem.tail)))).2⟩
  have f19 : IsFn q a19 19 "body_encode" (.ref D19) := ⟨_, .none, doc19, pm19, none, .ref c19, .none, fct (a := a19) (by repeat (first | exact List.Mem.head _ | apply List.Mem.tail)), rfl, (hC19 q (fct (a := c19) (by repeat (first | exact List.Mem.head _ | apply List.Mem.tail)))).2⟩
  have f20 : IsFn q a20 20 "decode" (.ref D20) := ⟨_, .none, doc20, pm20, none, .ref c20, .none, fct (a := a20) (by repeat (first | exact List.Mem.head _ | apply List.Mem.tail)), rfl, (hC20 q (fct (a := c20) (by repeat (first | exact List.Mem.head _ | apply List.Mem.tail)))).2⟩
  have f23 : IsFn q a23 23 "reduce" (.ref D23) := ⟨_, .none, doc23, pm23, none, .ref c23, .none, fct (a := a23) (by repeat (first | exact List.Mem.head _ | apply List.Mem.tail)), rfl, (hC23 q (fct (a := c23) (by repeat (first | exact List.Mem.head _ | apply List.Mem.tail)))).2⟩
  have f25 : IsFn q a25 25 "_law_parts" .none := ⟨_, .none, doc25, pm25, none, .ref c25, .none, fct (a := a25) (by repeat (first | exact List.Mem.head _ | apply List.Mem.tail)), rfl, (hC25 q (fct (a := c25) (by repeat (first | exact List.Mem.head _ | apply List.Mem.tail)))).2⟩
  have f26 : IsFn q a26 26 "_law_rows" .none := ⟨_, .none, doc26, pm26, none, .ref c26, .none, fct (a := a26) (by repeat (first | exact List.Mem.head _ | apply List.Mem.tail)), rfl, (hC26 q (fct (a := c26) (by repeat (first | exact List.Mem.head _ | apply List.Mem.tail)))).2⟩
  have f27 : IsFn q a27 27 "_law_raw" .none := ⟨_, .none, doc27, pm27, none, .ref c27, .none, fct (a := a27) (by repeat (first | exact List.Mem.head _ | apply List.Mem.tail)), rfl, (hC27 q (fct (a := c27) (by repeat (first | exact List.Mem.head _ | apply List.Mem.tail)))).2⟩
  have f28 : IsFn q a28 28 "law" .none := ⟨_, .none, doc28, pm28, none, .ref c28, .none, fct (a := a28) (by repeat (first | exact List.Mem.head _ | apply List.Mem.tail)), rfl, (hC28 q (fct (a := c28) (by repeat (first | exact List.Mem.head _ | apply List.Mem.tail)))).2⟩
  refine ⟨⟨hg, hb, hlim, ?_, ⟨t9, rfl⟩, ⟨t0, rfl⟩, ⟨a14, rfl, f14⟩, ⟨a15, rfl, f15⟩, ⟨M, mi, rfl, hml, hmf⟩, ⟨Z, zi, rfl, hzl, ?_⟩⟩, ⟨a19, _, t19a, t19b, rfl, f19, D19, _, _, rfl, fct (a := D19) (by repeat (first | exact List.Mem.head _ | apply List.Mem.tail)), rfl⟩, ⟨a20, _, t20a, rfl, f20, D20, _, _, rfl, fct (a := D20) (by repeat (first | exact List.Mem.head _ | apply List.Mem.tail)), rfl⟩, ⟨X22, a23, _, rfl, rfl, f23, D23, _, _, rfl, fct (a := D23) (by repeat (first | exact List.Mem.head _ | apply List.Mem.tail)), rfl⟩, ⟨a25, rfl, f25⟩, ⟨a26, rfl, f26⟩, ⟨a27, rfl, f27⟩, ⟨a28, rfl, f28⟩⟩
  · intro x hx
    obtain ⟨b1, b2⟩ := hbi x hx
    refine ⟨?_, b2⟩
    rw [← b1]
    simp only [biNames, List.map_cons, List.map_nil, List.mem_cons, List.not_mem_nil, or_false] at hx
    rcases hx with rfl | rfl | rfl | rfl | rfl | rfl | rfl <;> rfl
  · intro c' hc'
    obtain ⟨t, ht⟩ := hzf c' hc'
    exact ⟨t, by rw [ht, tab_enc c' hc']⟩
end
end Mine

/-! ### U8 -/
open PySem PySem.W PyProof.Rows PySem.Calls
set_option Elab.async false
set_option maxRecDepth 100000
set_option maxHeartbeats 8000000
set_option linter.unusedVariables false
namespace Mine
/-! ## the call of the law from behind the top -/
structure LawPre (mg mb : Str → Option Value) (s₁ : Shared) (hB : Heap) (aL cL PL ax : Addr) (ns : List Int) : Prop where
  lib : LawLib mg mb hB
  ext : Ext hB s₁.heap
  out : hB.get? PL = none
  all : ∀ b o, b ≠ PL → s₁.heap.get? b = some o → hB.get? b = some o
  tab : s₁.heap.get? PL = some (tabObj #[])
  lawv : mg "law" = some (.ref aL)
  fn : ∃ pm doc, hB.get? aL = some (fnObj (Str.ofString "law") (fArgs (stAt 28)) (fBody (stAt 28)) (fScope (stAt 28)) .none pm cL doc)
  cd : CodeHd hB cL PL ∧ hB.CodeRec (.ref cL) "law"
  bm : ∃ bm o, mg "__builtins__" = some (.ref bm) ∧ bm ≠ builtinsNs ∧ bm ≠ mainGlobals ∧ bm ≠ PL ∧ hB.get? bm = some o ∧ o.cls = .type "module" ∧ o.dict = some builtinsNs ∧ o.data = .plain
  list : ∃ ivs, hB.IsList ax ivs.toArray ∧ IntsAre ivs ns
  len : ns.length ≤ 63
noncomputable def LawSpec : Prop := ∀ (w : World) (mg mb : Str → Option Value) (s₁ : Shared) (hB : Heap) (aL cL PL ax : Addr) (ns : List Int), LawPre mg mb s₁ hB aL cL PL ax ns →
  wpAny (model P w) callerA (call (.ref aL) [.ref ax]) (fun v s' => v = .bool true ∧ KB [PL] s₁.heap s'.heap ∧ (∃ more, s'.heap.get? PL = some (tabObj more)) ∧ s'.gens = s₁.gens ∧ s'.os = s₁.os) (fun _ _ => False) s₁
/-! ## the script -/
theorem has_ints : ∀ {xs : List WData}, WShape.hasItems [] xs .int = true → ∃ ns : List Int, xs = ns.map WData.int
  | [], _ => ⟨[], rfl⟩
  | x :: xs, h => by
    rw [WShape.hasItems, Bool.and_eq_true] at h
    obtain ⟨ns, rfl⟩ := has_ints h.2
    have h1 := h.1
    cases x with
    | int i => exact ⟨i :: ns, rfl⟩
    | _ => exact Bool.noConfusion (show false = true from h1)
theorem has_list {d : WData} (h : WShape.has [] d (.list .int) = true) : ∃ ns : List Int, d = .list (ns.map WData.int) := by
  cases d with
  | list xs =>
    obtain ⟨ns, rfl⟩ := has_ints (xs := xs) (by simpa only [WShape.has, WShape.arms, List.any_cons, List.any_nil, Bool.or_false] using h)
    exact ⟨ns, rfl⟩
  | _ => exact Bool.noConfusion (show false = true from h)
theorem reads_ints {R : WRecords} {cl : Str → Option Addr} {h : Heap} {ns : List Int} : ∀ {vs : List Value} {as : List Addr}, ReadsAllW R cl h vs (ns.map WData.int) as → IntsAre vs ns := by
  induction ns with
  | nil =>
    intro vs as r
    cases r
    exact .nil
  | cons n ns ih =>
    intro vs as r
    cases r with
    | cons a r =>
      cases a
      exact .cons _ _ (ih r)
noncomputable abbrev rowL : OpenRow := PySem.Challenge.rw_oc0117_01.row
theorem pre_of {args : List WData} (h : rowL.toRowW.claim.pre args = true) : ∃ ns : List Int, args = [.list (ns.map WData.int)] ∧ ns.length ≤ 63 := by
  obtain ⟨h1, h2⟩ := pre_splitW h
  obtain ⟨d, r, rfl, hd, hr⟩ := hasAllW_cons h1
  obtain rfl := hasAllW_nil hr
  obtain ⟨ns, rfl⟩ := has_list hd
  refine ⟨ns, rfl, ?_⟩
  rcases Nat.lt_or_ge 63 ns.length with q | q
  · exfalso
    have h3 : WTm.holds [] (.and (.not (.lt (.lit (.int 63)) (.len (.arg 0)))) (.lit (.bool true))) { args := [.list (ns.map WData.int)] } = true := h2
    have hlt : decide ((63 : Int) < (ns.length : Int)) = true := by simp; omega
    have e2 : less? (WData.int 63) (WData.int (ns.length : Int)) = some (decide ((63 : Int) < (ns.length : Int))) := rfl
    simp [WTm.holds, WTm.value, e2] at h3
    rw [hlt] at h3
    cases h3
  · exact q
/-! ## the start -/
noncomputable abbrev m0 (w : World) : Str → Option Value := (boot_heap w.params).nsMap mainGlobals
noncomputable abbrev mb0 (w : World) : Str → Option Value := (boot_heap w.params).nsMap builtinsNs
theorem boot_g (p : Params) : (boot_heap p).isNs mainGlobals = true := by kernel_rfl
theorem boot_b (p : Params) : (boot_heap p).isNs builtinsNs = true := by kernel_rfl
theorem boot_s (p : Params) : (boot_heap p).isNs cStatics = true := by kernel_rfl
theorem boot_keys (p : Params) : ((boot_heap p).nsKeys mainGlobals).all startupNames.contains = true := by kernel_rfl
theorem boot_stat (p : Params) : (boot_heap p).accountedOkI (importedModules P.main.body) = true := by kernel_rfl
theorem boot_blt (p : Params) : (boot_heap p).bltView = bltViewBooted := by kernel_rfl
theorem boot_lim (p : Params) : (boot_heap p).NoLimit := ⟨_, .of_isNs (boot_s p), by kernel_rfl⟩
theorem boot_mod (p : Params) : ∃ bm o, (boot_heap p).nsMap mainGlobals "__builtins__" = some (.ref bm) ∧ bm ≠ builtinsNs ∧ bm ≠ mainGlobals ∧ (boot_heap p).get? bm = some o ∧ o.cls = .type "module" ∧ o.dict = some builtinsNs ∧ o.data = .plain :=
  ⟨4, { cls := .type "module", dict := some builtinsNs }, by kernel_rfl, by decide, by decide, by kernel_rfl, rfl, rfl, rfl⟩
theorem boot_bi (p : Params) : ∀ x ∈ biNames, (boot_heap p).nsMap mainGlobals x = none ∧ (boot_heap p).nsMap builtinsNs x = bootBuiltins x := by
  have h1 : biNames.all (fun x => ((boot_heap p).nsMap mainGlobals x).isNone) = true := by kernel_rfl
  intro x hx
  refine ⟨Option.isNone_iff_eq_none.mp (List.all_eq_true.mp h1 x hx), ?_⟩
  refine (Heap.of_bltView (boot_b p) (boot_blt p) x ?_).trans rfl
  simp only [biNames, List.map_cons, List.map_nil, List.mem_cons, List.not_mem_nil, or_false] at hx
  rcases hx with rfl | rfl | rfl | rfl | rfl | rfl | rfl <;> decide
theorem boot_names (p : Params) : (topNames.all fun x => x == Str.ofString "__name__" || ((boot_heap p).nsMap mainGlobals x).isNone) = true := by kernel_rfl
theorem gl_init {m : Str → Option Value} : ∀ {l : FrL}, (∀ q ∈ l, q.2 = m q.1) → gl m l = m
  | [], _ => by funext x; rfl
  | (y, o) :: r, h => by
    funext x
    rw [gl_cons, gl_init fun q hq => h q (by simp [hq])]
    split
    · rename_i e
      rw [beq_iff_eq.mp e]
      exact h (y, o) (by simp)
    · rfl
theorem top_done (w : World) (s : Shared) (hs : s.heap = boot_heap w.params) (hg : s.gens = #[]) (hz : s.asleep) :
    ∃ s₁, (∃ n t₁, schedN (denote table) P w n (.single s (topStub P)) = .running (.single s₁ t₁) ∧ through t₁ = true) ∧ s₁.heap.life = s.heap.life ∧ s₁.gens = #[] ∧ s₁.os = s.os ∧
      ∃ c Pl, TB (m0 w) (mb0 w) s.heap c Pl ∧ TopEnd (m0 w) (mb0 w) s.heap c Pl s₁.heap := by
  have key := top_ran (p := P) (w := w) (t := (topStub P).cur) (s := s) (R := fun s₁ => s₁.gens = #[] ∧ s₁.os = s.os ∧ ∃ c Pl, TB (m0 w) (mb0 w) s.heap c Pl ∧ TopEnd (m0 w) (mb0 w) s.heap c Pl s₁.heap) hz ?_
  · obtain ⟨s₁, h1, h2, h3, h4, h5⟩ := key
    exact ⟨s₁, h1, h2, h3, h4, h5⟩
  · show wpAny _ _ (do
      let code ← moduleCode P.main
      let frame ← newBodyFrame code mainNs mainNs
      let _ ← run (.body (behindTheImports P) { scope := P.main.scope, locals := mainNs, globals := mainNs, cells := [], code, frame := some frame })
      ret .none) _ _ _
    have ng : s.heap.Ns mainGlobals (m0 w) := by rw [hs]; exact .of_isNs (boot_g _)
    have nb : s.heap.Ns builtinsNs (mb0 w) := by rw [hs]; exact .of_isNs (boot_b _)
    have hbm := boot_mod w.params
    rw [← hs] at hbm
    refine wpAny_bind (wpAny_moduleCode fun c Pl h' tk hk hc hP hcode => ?_)
    unfold newBodyFrame
    refine wpAny_bind (wpAny_bind (wpAny_nsGet (ng.keeps hk) (wpAny_alloc ?_)))
    refine wpAny_bind (wpAny_run ?_)
    have B : TB (m0 w) (mb0 w) s.heap c Pl := by
      obtain ⟨bm, o, b1, b2, b3, b4, b5⟩ := hbm
      have e0 : m0 w = s.heap.nsMap mainGlobals := by rw [hs]
      exact ⟨⟨bm, o, by rw [e0]; exact b1, b2, b3, Nat.ne_of_lt (Nat.lt_of_lt_of_le (Heap.lt_size b4) hP), b4, b5⟩, nb, Heap.get?_none_of_le hP, Heap.get?_none_of_le hc, Nat.lt_of_lt_of_le ng.lt hc, Nat.lt_of_lt_of_le ng.lt hP⟩
    have e : ∀ o, Ext s.heap (h'.push o) := fun o b ob q => Heap.get?_push_of_some _ (hk b ob q)
    have hgl : gl (m0 w) (topL [none, none, none, none, none, none, none, none, none, none, none, m0 w (Str.ofString "__name__"), none, none, none, none, none, none, none, none, none, none, none]) = m0 w := by
      refine gl_init ?_
      have hn := boot_names w.params
      have hx : ∀ x ∈ topNames, x ≠ Str.ofString "__name__" → m0 w x = none := fun x hx hne => by
        have := List.all_eq_true.mp hn x hx
        rw [Bool.or_eq_true] at this
        rcases this with q | q
        · exact absurd (beq_iff_eq.mp q) hne
        · exact Option.isNone_iff_eq_none.mp q
      intro q hq
      have hall : (topL [none, none, none, none, none, none, none, none, none, none, none, m0 w (Str.ofString "__name__"), none, none, none, none, none, none, none, none, none, none, none]) = topNames.map fun x => (x, if x = Str.ofString "__name__" then m0 w (Str.ofString "__name__") else none) := by
        rfl
      rw [hall] at hq
      obtain ⟨x, hxm, rfl⟩ := List.mem_map.mp hq
      by_cases e : x = Str.ofString "__name__"
      · subst e; simp
      · simp only [e, if_false]
        exact (hx x hxm e).symm
    have T0 : ∀ o, TA (m0 w) s.heap c Pl #[] (topL [none, none, none, none, none, none, none, none, none, none, none, m0 w (Str.ofString "__name__"), none, none, none, none, none, none, none, none, none, none, none]) [] (h'.push o) := fun o =>
      ⟨by rw [hgl]; exact ng.keeps (e o), hcode.push _, KB.of_ext (e o), by rw [hgl], fun p hp => by simp at hp, fun p hp => by simp at hp⟩
    rw [behind_eq]
    refine codeAny_body rfl rfl ?_
    have hbr : (m0 w) (Str.ofString "range") = none ∧ (mb0 w) (Str.ofString "range") = some (.type "range") := ⟨by kernel_rfl, by kernel_rfl⟩
    have hbo : (m0 w) (Str.ofString "object") = none ∧ (mb0 w) (Str.ofString "object") = some (.type "object") := ⟨by kernel_rfl, by kernel_rfl⟩
    refine top_walk (s := { s with toks := tk }) (tk₀ := tk) B (boot_bi w.params) hbr hbo (T0 _) rfl fun h₂ tk₂ hend => ?_
    exact wpAny_pure ⟨_, rfl, ⟨hg, rfl, c, Pl, B, hend⟩, hg⟩
end Mine

/-! ### U9 -/
open PySem PySem.W PyProof.Rows PySem.Calls
set_option Elab.async false
set_option maxRecDepth 100000
set_option maxHeartbeats 8000000
set_option linter.unusedVariables false
namespace Mine
theorem names_bound : (topNames.all fun x => P.boundNames.contains x || startupNames.contains x) = true := by decide +kernel
theorem gl_out {m : Str → Option Value} {l : FrL} {x : Str} (h : x ∉ l.map (·.1)) : gl m l x = m x := by
  induction l with
  | nil => rfl
  | cons q r ih =>
    obtain ⟨y, o⟩ := q
    simp only [List.map_cons, List.mem_cons, not_or] at h
    rw [gl_cons, if_neg (by simpa using h.1)]
    exact ih h.2
theorem topL_keys {vs : List (Option Value)} {x : Str} (h : x ∉ topNames) : x ∉ (topL vs).map (·.1) := fun q => by
  obtain ⟨p, hp, rfl⟩ := List.mem_map.mp q
  exact h (List.of_mem_zip hp).1
/-! ## the law is well said: one small check for each part -/
theorem and_mk {a b : Bool} (x : a = true) (y : b = true) : (a && b) = true := by rw [x, y]; rfl
theorem said_look : looksOpen P = true := by
  unfold looksOpen
  repeat' (with_reducible refine and_mk ?_ ?_)
  all_goals decide +kernel
theorem said_part : rowL.partSaid = true := by
  unfold OpenRow.partSaid
  repeat' (with_reducible refine and_mk ?_ ?_)
  · exact said_look
  all_goals decide +kernel
theorem said_row : rowL.wellSaid = true := by
  unfold OpenRow.wellSaid
  with_reducible refine and_mk (and_mk said_part ?_) ?_
  all_goals decide +kernel
theorem said_law : PySem.Challenge.rw_oc0117_01.wellSaid = true := by
  unfold OpenLaw.wellSaid
  repeat' (with_reducible refine and_mk ?_ ?_)
  · exact said_row
  all_goals decide +kernel
theorem holds_mine (hlaw : LawSpec) : PySem.Challenge.rw_oc0117_01.Holds := by
  w_on
  refine holds_law said_law fun said => ?_
  have hw : rowL.toRowW.promised := ⟨[.list [.int 3, .int 1]], by decide +kernel, by decide +kernel⟩
  have hb : rowL.prog.bare := ⟨rfl, rfl, rfl, rfl, rfl, by decide +kernel⟩
  have o1 : opensWell P = true := by decide +kernel
  refine ⟨said, hw, ⟨hb, o1, rfl⟩, hw.witness, fun w => ?_⟩
  obtain ⟨s, hs, hv⟩ := Option.map_eq_some_iff.mp (boot_mine w)
  rw [← table_eq_tree] at hs
  have A := AfterImport.of_importEnds hs
  obtain ⟨v1, v2⟩ := Prod.mk.inj hv
  obtain ⟨v2, _⟩ := Prod.mk.inj v2
  refine ⟨⟨s, A⟩, fun s' hs' => ?_⟩
  obtain rfl : s' = s := AfterImport.unique hs' A
  refine ⟨s', fence_eq s', v2, ?_⟩
  obtain ⟨s₁, hrun, hlife, hgens, hos, c, Pl, B, vs, fs, ps, aL, cL, PL, coL, doc, pm, T, hlv, hC, hPf, hlib⟩ := top_done w s' v1 v2 A.life
  have hz : s₁.asleep := Shared.asleep_of_life hlife A.life
  have hst : ∀ key, staticOf s₁.heap key = staticOf s'.heap key := fun key => by
    obtain ⟨o, es, ep, ho, r⟩ := Heap.Ns.of_isNs (boot_s w.params)
    rw [← v1] at ho
    unfold staticOf
    rw [ho, T.kb _ _ (by decide) ho]
  have hgm : ∀ x, globalOf s₁.heap x = gl (m0 w) (topL vs) x := fun x => Claim2Try.globalOf_of_ns T.g x
  have hg0 : ∀ x, globalOf s'.heap x = m0 w x := fun x => by
    refine Claim2Try.globalOf_of_ns ?_ x
    rw [v1]; exact Heap.Ns.of_isNs (boot_g _)
  refine ⟨s₁, ⟨hrun, hlife, Shared.rest_eq hos, fun b o e hn => T.kb b o (fun q => hn (.inl (List.mem_singleton.mp q))) e, ?_, fun key => .inl (hst key), Pin.keysAreStrs_of_ns T.g, ?_, ?_, ?_, ?_, ?_⟩, ?_, ?_, ?_, ?_⟩
  · have := Heap.accountedI_of_ok (boot_stat w.params)
    rw [← v1] at this
    intro key v hk
    rw [hst] at hk
    have := this key v hk
    simp only [← hst] at this
    exact this
  · intro x hx
    refine (Pin.builtinOf_of_ns (B.b.at' fun o q => T.kb _ o (by decide) q) x).trans ?_
    exact Heap.of_bltView (boot_b _) (boot_blt _) x hx
  · obtain ⟨bm, o, b1, b2, b3, b4, b5, b6, b7, _⟩ := B.bm
    exact ⟨bm, o, (hgm _).trans (T.nb.trans b1), T.kb _ _ (by simpa using b3) b5, b6, b7⟩
  · intro g hg
    rw [hgens] at hg; simp at hg
  · intro x v hx
    rw [hgm] at hx
    by_cases hm : x ∈ topNames
    · have := List.all_eq_true.mp names_bound x hm
      rw [Bool.or_eq_true, List.contains_iff_mem, List.contains_iff_mem] at this
      exact this.symm
    · rw [gl_out (topL_keys hm)] at hx
      left
      have := List.all_eq_true.mp (boot_keys w.params) x (by
        by_cases hq : x ∈ (boot_heap w.params).nsKeys mainGlobals
        · exact hq
        · have hx2 : (boot_heap w.params).nsMap mainGlobals x = some v := hx
          rw [Heap.nsMap_none hq] at hx2; cases hx2)
      exact List.contains_iff_mem.mp this
  · intro x hx
    rw [hgm, hg0, gl_out (topL_keys ?_)]
    have : laidNames.all (fun x => !topNames.contains x) = true := by decide +kernel
    have := List.all_eq_true.mp this x hx
    simpa using this
  · -- the law stands as it is written
    intro n hn
    obtain rfl : n = Str.ofString "law" := by
      have : n ∈ [Str.ofString "law"] := hn
      simpa using this
    exact ⟨aL, _, _, fArgs (stAt 28), fBody (stAt 28), fScope (stAt 28), (hgm _).trans hlv, T.kept _ (.head _), rfl, rfl, rfl, rfl, rfl, rfl, rfl, rfl, rfl, rfl, .inl ⟨rfl, rfl⟩, [], rfl, .inl ⟨rfl, rfl⟩⟩
  · intro x hx
    exact nomatch hx
  · intro x hx
    exact nomatch hx
  · refine ClaimW.callFrom_of_specG (c := rowL.toRowW.claim) (tree := fun vs => do match ← nsGet mainNs rowL.name with
      | some f => do ret (← PySem.call f vs)
      | none => unsupported "claim.caller:no-such-global") hz hgens fun args hpre hlay ord hord => ?_
    obtain ⟨ns, rfl, hlen⟩ := pre_of hpre
    obtain ⟨⟨vs', s₂⟩, hlaid⟩ := Option.isSome_iff_exists.mp (layAllW_isSome (R := []) (cl := classAt s₁.heap) (P := w.params) (ord := ord) (fun c hc => nomatch hc) [.list (ns.map WData.int)] [.list .int] s₁ (pre_splitW hpre).1)
    have keeps := layAllW_keeps _ _ _ hlaid
    have hal := layAllW_rest _ _ _ hlaid
    obtain ⟨as, hrd, hin, hold⟩ := reads_layAllW hord _ _ _ hlaid hlay s₂.heap (fun _ _ e => e)
    have L : Laid [] w s₁ s₂ [.list (ns.map WData.int)] vs' as := ⟨⟨ord, hord, hlaid⟩, hrd, hin, hold, keeps, hal.1.trans hgens, hal.2.2.1⟩
    obtain ⟨ax, ivs, rfl, hax, hints⟩ : ∃ (ax : Addr) (ivs : List Value), vs' = [.ref ax] ∧ s₂.heap.IsList ax ivs.toArray ∧ IntsAre ivs ns := by
      cases hrd with
      | cons h1 h2 =>
        cases h2
        obtain ⟨l, o, its, n, ai, rfl, ho, hc, hd, ra, _⟩ := readsW_list_open h1
        exact ⟨l, its.toList, rfl, ⟨o, ho, hc, n, by rw [hd]⟩, reads_ints ra⟩
    refine ⟨_, s₂, hlaid, ?_⟩
    have hPt : s₂.heap.get? PL = some (tabObj #[]) := keeps _ _ (T.kept (PL, tabObj #[]) (.tail _ (.tail _ (.head _))))
    have hout := T.out (PL, tabObj #[]) (.tail _ (.tail _ (.head _)))
    have hcl : ∀ {b : Addr} {o : Obj}, s₂.heap.get? b = some o → o ≠ tabObj #[] → (s₂.heap.hide PL).get? b = some o := fun {b o} e hne => by
      rw [Heap.hide_ne _ (fun q => by rw [q, hPt] at e; exact hne (Option.some.inj e).symm)]
      exact e
    have hne' : ∀ {b : Addr}, b ≠ PL → (s₂.heap.hide PL).get? b = s₂.heap.get? b := fun hb => Heap.hide_ne _ hb
    have boot_ne : ∀ {b : Addr} {o : Obj}, s'.heap.get? b = some o → b ≠ PL := fun e q => by
      have h0 : s'.heap.get? PL = none := hout.2.2.2
      rw [q, h0] at e; cases e
    have gB : (s₂.heap.hide PL).Ns mainGlobals (gl (m0 w) (topL vs)) := (T.g.keeps keeps).at' fun o q => by rw [hne' (Ne.symm hout.1)]; exact q
    have bB : (s₂.heap.hide PL).Ns builtinsNs (mb0 w) := by
      obtain ⟨o, es, ep, ho, r⟩ := B.b
      exact ⟨o, es, ep, by rw [hne' (boot_ne ho)]; exact keeps _ _ (T.kb _ _ (by decide) ho), r⟩
    have lB : (s₂.heap.hide PL).NoLimit := by
      obtain ⟨mc, ⟨o, es, ep, ho, r⟩, hm⟩ := boot_lim w.params
      rw [← v1] at ho
      exact ⟨mc, ⟨o, es, ep, by rw [hne' (boot_ne ho)]; exact keeps _ _ (T.kb _ _ (by decide) ho), r⟩, hm⟩
    have fL := T.kept (aL, fnObj (Str.ofString "law") (fArgs (stAt 28)) (fBody (stAt 28)) (fScope (stAt 28)) .none pm cL doc) (.head _)
    have kL := T.kept (cL, coL) (.tail _ (.head _))
    have hco : coL ≠ tabObj #[] := fun e => by
      obtain ⟨o, vs, file, tf, flags, tg, inF, text, tt, e1, e2, _⟩ := (hC _ kL).1
      have e1' : s₁.heap.get? cL = some coL := kL
      rw [e1'] at e1; cases e1
      rw [e] at e2; cases e2
    have fB := hcl (keeps _ _ fL) (by intro e; cases e)
    have kB := hcl (keeps _ _ kL) hco
    have lib : LawLib (gl (m0 w) (topL vs)) (mb0 w) (s₂.heap.hide PL) := by
      refine hlib _ gB bB lB ?_
      intro p hp
      rcases List.mem_cons.mp hp with rfl | hp
      · exact fB
      · rcases List.mem_cons.mp hp with rfl | hp
        · exact kB
        · rw [hne' (fun q => hPf (List.mem_map.mpr ⟨p, hp, q⟩))]
          exact keeps _ _ (T.kept p (.tail _ (.tail _ (.tail _ hp))))
    have pre : LawPre (gl (m0 w) (topL vs)) (mb0 w) s₂ (s₂.heap.hide PL) aL cL PL ax ns := by
      refine ⟨lib, fun b o e => Heap.of_hide e, Heap.hide_self _ _, fun b o hb e => by rw [hne' hb]; exact e, hPt, hlv, ⟨pm, doc, fB⟩, hC _ kB, ?_, ⟨ivs, ?_, hints⟩, hlen⟩
      · obtain ⟨bm, o, b1, b2, b3, b4, b5, b6⟩ := B.bm
        exact ⟨bm, o, T.nb.trans b1, b2, b3, boot_ne b5, by rw [hne' (boot_ne b5)]; exact keeps _ _ (T.kb _ _ (by simpa using b3) b5), b6⟩
      · obtain ⟨o, ho, hc, n, hd⟩ := hax
        exact ⟨o, hcl ho (fun e => by rw [e] at hc; cases hc), hc, n, hd⟩
    have hcall := hlaw w _ _ s₂ _ aL cL PL ax ns pre
    refine wpAny_bind (wpAny_nsGet (m := gl (m0 w) (topL vs)) (T.g.keeps keeps) ?_)
    show wpAny _ _ (match gl (m0 w) (topL vs) (Str.ofString "law") with | some f => _ | none => _) _ _ _
    rw [hlv]
    refine wpAny_bind (wpAny_mono hcall ?_ fun _ _ e => e.elim)
    rintro v s₃ ⟨rfl, hkb, ⟨more, hmore⟩, hg3, ho3⟩
    refine wpAny_pure ⟨_, rfl, ?_⟩
    have hcode : isCodeTable s₂.heap PL := by
      obtain ⟨o, vs, file, tf, flags, tg, inF, text, tt, e1, e2, e3, e4, _⟩ := (hC _ (keeps _ _ kL)).1
      exact ⟨cL, o, vs, e1, e2, e3, e4⟩
    have old : OldK s₂.heap s₃.heap := by
      refine ⟨fun b o e => ?_, fun b o e => ?_⟩
      · by_cases hb : b = PL
        · subst hb
          rw [hPt] at e; cases e
          exact .inr (.inl ⟨hcode, rfl, #[], more, rfl, by rw [hmore]; simp⟩)
        · exact .inl (hkb b o (by simpa using hb) e)
      · by_cases hb : b = PL
        · exact ⟨_, hb ▸ hmore⟩
        · exact ⟨o, hkb b o (by simpa using hb) e⟩
    have hpost : rowL.toRowW.claim.post [.list (ns.map WData.int)] (.bool true) [.list (ns.map WData.int)] = true := by
      show (WShape.has [] (.bool true) .bool && WTm.holds [] (.eq .res (.lit (.bool true))) ⟨[.list (ns.map WData.int)], some (.bool true), [.list (ns.map WData.int)], []⟩) = true
      simp [WTm.holds, WTm.value, WShape.has, WShape.arms, PySem.W.same]
    have good : GoodWG rowL.toRowW.claim (classAt s₁.heap) (ExcName.means s₁.heap) [.list (ns.map WData.int)] s₂ (.ok (.ret (.bool true))) s₃ :=
      ⟨.inl ⟨_, .bool true, [], rfl, fun cls => rfl, .bool true, hpost, fun _ => ⟨by simp, by simp⟩⟩, old, ho3, .of_eq (hg3.trans (hal.1.trans hgens))⟩
    have z := GoodWG.laid (c := rowL.toRowW.claim) rfl rfl (ident_freeW rfl rfl rfl) L good
    exact ⟨z.1, z.2.1, z.2.2, fun q => nomatch q⟩
end Mine

/-! ### V1 -/
open PySem PySem.W PyProof.Rows PySem.Calls
set_option Elab.async false
set_option maxRecDepth 100000
set_option maxHeartbeats 4000000
set_option linter.unusedVariables false
namespace Mine
/-! ## lambdas -/
section
variable {w : World} {A : Around} {h hp : Heap} {s : Shared} {tk₀ : Nat} {E : Value → Shared → Prop}
theorem lam_call {f c' : Addr} {name qual : Str} {params : Arguments} {body : Expr} {scope : Scope} {cl : List (Str × Addr)} {pm ctv : Value} {args : List Value} {binds : List (Str × Value)} {V : Value → Prop}
    (hfo : h.get? f = some (kla_obj name qual params body scope cl pm c' ctv)) (hcd : h.CodeRec (.ref c') qual) (hlim : h.NoLimit) (hroom : A.depth < recursionLimit)
    (hbind : bindArgs (kla_fn name qual params body scope cl pm (.ref c') ctv) ⟨args, []⟩ = pure binds)
    (hev : ∀ L' h₁ A', h₁.Ns L' (fun y => binds.reverse.lookup y) → Ext h h₁ → A'.depth = A.depth + 1 → A'.handled = A.handled → Co w A' (eval body (envX qual scope L' f (.ref c') cl)) h₁ V)
    (hloc : ∀ y ∈ binds, scope.names.lookup y.1 = some .local) (hcell : ∀ x ∈ scope.names, x.2 ≠ .cell) (hco : scope.isCoroutine = false) (hgen : scope.isGenerator = false) (hk : scope.kind = .function) :
    Co w A (call (.ref f) args) h V := by
  intro s Q E hI hQ
  refine wpAny_call (kla_callFunE hroom (hI _ _ hfo) rfl hco hgen rfl (hcd.keeps hI) ?_)
  rw [hbind]
  refine wpAny_pure (wpAny_newFunctionEnv hcell hloc (fun h₁ hns hsb => ⟨(hlim.keeps hI).fresh _ hsb, ?_⟩) hk)
  show codeAny _ _ (.expr body (envX qual scope s.heap.objs.size f (.ref c') cl)) _ _
  have hk₁ : Ext s.heap h₁ := fun b o e => hsb.extBut b o (Nat.ne_of_lt (Heap.lt_size e)) (Heap.get?_push_of_some _ e)
  refine kla_codeExpr ?_
  refine (hev s.heap.objs.size h₁ (A.deeper (envX qual scope s.heap.objs.size f (.ref c') cl)) hns (hI.trans hk₁) rfl rfl) { s with heap := h₁, toks := s.toks + binds.length } _ _ (Ext.refl _) fun v h₂ tk hv e => ?_
  exact hQ v h₂ tk hv (hk₁.trans e)
end
/-! ## the law's state -/
structure LS (hK : Heap) (PL L cl ce cw : Addr) (l : FrL) (vl ve vw : Option Value) (n : Nat) (h : Heap) : Prop where
  ns : h.Ns L (fr l)
  ext : Ext hK h
  out : ∀ b ∈ [PL, L, cl, ce, cw], hK.get? b = none
  nd : [PL, L, cl, ce, cw].Nodup
  c1 : h.IsCell cl vl
  c2 : h.IsCell ce ve
  c3 : h.IsCell cw vw
  tab : ∃ ps, h.get? PL = some (tabObj ps) ∧ LTab ps n ∧ TriplesOk ps.toList
section
variable {hK h h' : Heap} {PL L cl ce cw : Addr} {l : FrL} {vl ve vw : Option Value} {n : Nat}
theorem LS.up (T : LS hK PL L cl ce cw l vl ve vw n h) (e : Ext h h') : LS hK PL L cl ce cw l vl ve vw n h' :=
  ⟨T.ns.keeps e, T.ext.trans e, T.out, T.nd, IsCell.up T.c1 e, IsCell.up T.c2 e, IsCell.up T.c3 e, let ⟨ps, a, b, c⟩ := T.tab; ⟨ps, e _ _ a, b, c⟩⟩
theorem LS.at (T : LS hK PL L cl ce cw l vl ve vw n h) : At hK L l h := ⟨T.ns, T.ext, T.out _ (by simp)⟩
theorem LS.nes (T : LS hK PL L cl ce cw l vl ve vw n h) : PL ≠ L ∧ PL ≠ cl ∧ PL ≠ ce ∧ PL ≠ cw ∧ L ≠ cl ∧ L ≠ ce ∧ L ≠ cw ∧ cl ≠ ce ∧ cl ≠ cw ∧ ce ≠ cw := by
  have := T.nd
  simp only [List.nodup_cons, List.mem_cons, List.not_mem_nil, or_false, not_or] at this
  obtain ⟨⟨a1, a2, a3, a4⟩, ⟨b1, b2, b3⟩, ⟨c1, c2⟩, d1, _⟩ := this
  exact ⟨a1, a2, a3, a4, b1, b2, b3, c1, c2, d1⟩
/-- what is known now, but the frame, the cells and the table -/
theorem LS.rebase (T : LS hK PL L cl ce cw l vl ve vw n h) : ∃ hN, Ext hK hN ∧ LS hN PL L cl ce cw l vl ve vw n h ∧ ∀ b o, b ∉ [PL, L, cl, ce, cw] → h.get? b = some o → hN.get? b = some o :=
  ⟨hideAll h [PL, L, cl, ce, cw], fun b o e => hideAll_get _ (T.ext b o e) (fun q => by rw [T.out b q] at e; cases e),
    ⟨T.ns, fun b o e => of_hideAll _ e, fun b hb => hideAll_none _ hb, T.nd, T.c1, T.c2, T.c3, T.tab⟩, fun b o hb e => hideAll_get _ e hb⟩
/-- a new object is none of these -/
theorem LS.new (T : LS hK PL L cl ce cw l vl ve vw n h) {b : Addr} (hb : h.get? b = none) : b ∉ [PL, L, cl, ce, cw] := by
  intro q
  simp only [List.mem_cons, List.not_mem_nil, or_false] at q
  rcases q with rfl | rfl | rfl | rfl | rfl
  · obtain ⟨ps, a, _⟩ := T.tab; rw [a] at hb; cases hb
  · obtain ⟨o, ho⟩ := T.at.some; rw [ho] at hb; cases hb
  · obtain ⟨o, ho, _⟩ := T.c1; rw [ho] at hb; cases hb
  · obtain ⟨o, ho, _⟩ := T.c2; rw [ho] at hb; cases hb
  · obtain ⟨o, ho, _⟩ := T.c3; rw [ho] at hb; cases hb
end
section
variable {w : World} {A : Around} {hK hp : Heap} {PL L cl ce cw : Addr} {l : FrL} {vl ve vw : Option Value} {n : Nat} {s : Shared} {tk₀ : Nat} {E : Value → Shared → Prop} {Q : Flow → Shared → Prop} {pos px : Pos} {x : Str} {e : Expr} {env : Env}
theorem lx_assign {V : Value → Heap → Prop} (T : LS hK PL L cl ce cw l vl ve vw n hp) (he : EvH w A env hp e V) (hL : env.locals = L)
    (k : ∀ v h₁ h' tk, V v h₁ → Ext hp h₁ → LS hK PL L cl ce cw (setL l x v) vl ve vw n h' → KB [L] h₁ h' → Q .next (St s h' tk))
    (hk : env.scope.kind = .function := by rfl) (hl : env.kindOf x = some .local := by rfl) (hsw : swapsWith e (some (.Name x px)) pos.line env = pure false := by rfl) :
    wpAny (model P w) A (exec (.Assign [.Name x px] e pos) env) Q E (St s hp tk₀) := by
  subst hL
  refine ex_assignH T.at he (fun v h₁ h' tk hv e₁ F kb => k v h₁ h' tk hv e₁ ?_ kb) hk hl hsw
  obtain ⟨a1, a2, a3, a4, b1, b2, b3, c1, c2, d1⟩ := T.nes
  have T1 := T.up e₁
  have nin : ∀ {a b : Addr}, b ≠ a → a ∉ [b] := fun hab q => hab (List.mem_singleton.mp q).symm
  exact ⟨F.ns, F.ext, T.out, T.nd, IsCell.kb T1.c1 (nin b1) kb, IsCell.kb T1.c2 (nin b2) kb, IsCell.kb T1.c3 (nin b3) kb, let ⟨ps, p1, p2⟩ := T1.tab; ⟨ps, kb _ _ (nin (Ne.symm a1)) p1, p2⟩⟩
/-- a cell's name bound -/
theorem lx_cell {V : Value → Heap → Prop} {c : Addr} {o : Option Value} (T : LS hK PL L cl ce cw l vl ve vw n hp) (hc : env.cells.lookup x = some c) (hv : hp.IsCell c o) (he : EvH w A env hp e V)
    (k : ∀ v h₁ h' tk, V v h₁ → Ext hp h₁ → h'.IsCell c (some v) → KB [c] h₁ h' → Q .next (St s h' tk))
    (hk : env.scope.kind = .function := by rfl) (hl : env.kindOf x = some .cell := by rfl) (hsw : swapsWith e (some (.Name x px)) pos.line env = pure false := by rfl) :
    wpAny (model P w) A (exec (.Assign [.Name x px] e pos) env) Q E (St s hp tk₀) := by
  refine wpAny_Assign_Name (CoH.use he (Ext.refl _) fun v h₁ k₁ hv' e₁ => ?_) hsw
  refine wpAny_storeName_cell (s := St s h₁ k₁) hk hl hc (let ⟨o, a, b⟩ := hv; ⟨o, e₁ _ _ a, b⟩) fun h₂ hn hs => ?_
  exact k v h₁ h₂ k₁ hv' e₁ hn (KB.of_same (by simp) hs)
theorem LS.cell1 {h' : Heap} {v : Option Value} (T : LS hK PL L cl ce cw l vl ve vw n hp) (c : h'.IsCell cl v) (k : KB [cl] hp h') : LS hK PL L cl ce cw l v ve vw n h' := by
  obtain ⟨a1, a2, a3, a4, b1, b2, b3, c1, c2, d1⟩ := T.nes
  have nin : ∀ {a b : Addr}, b ≠ a → a ∉ [b] := fun hab q => hab (List.mem_singleton.mp q).symm
  exact ⟨T.ns.at' fun o q => k _ o (nin (Ne.symm b1)) q, fun b o e => k b o (fun q => by rw [T.out b (by rw [List.mem_singleton.mp q]; simp)] at e; cases e) (T.ext b o e), T.out, T.nd, c, IsCell.kb T.c2 (nin c1) k, IsCell.kb T.c3 (nin c2) k, let ⟨ps, p1, p2⟩ := T.tab; ⟨ps, k _ _ (nin (Ne.symm a2)) p1, p2⟩⟩
theorem LS.cell2 {h' : Heap} {v : Option Value} (T : LS hK PL L cl ce cw l vl ve vw n hp) (c : h'.IsCell ce v) (k : KB [ce] hp h') : LS hK PL L cl ce cw l vl v vw n h' := by
  obtain ⟨a1, a2, a3, a4, b1, b2, b3, c1, c2, d1⟩ := T.nes
  have nin : ∀ {a b : Addr}, b ≠ a → a ∉ [b] := fun hab q => hab (List.mem_singleton.mp q).symm
  exact ⟨T.ns.at' fun o q => k _ o (nin (Ne.symm b2)) q, fun b o e => k b o (fun q => by rw [T.out b (by rw [List.mem_singleton.mp q]; simp)] at e; cases e) (T.ext b o e), T.out, T.nd, IsCell.kb T.c1 (nin (Ne.symm c1)) k, c, IsCell.kb T.c3 (nin d1) k, let ⟨ps, p1, p2⟩ := T.tab; ⟨ps, k _ _ (nin (Ne.symm a3)) p1, p2⟩⟩
theorem LS.cell3 {h' : Heap} {v : Option Value} (T : LS hK PL L cl ce cw l vl ve vw n hp) (c : h'.IsCell cw v) (k : KB [cw] hp h') : LS hK PL L cl ce cw l vl ve v n h' := by
  obtain ⟨a1, a2, a3, a4, b1, b2, b3, c1, c2, d1⟩ := T.nes
  have nin : ∀ {a b : Addr}, b ≠ a → a ∉ [b] := fun hab q => hab (List.mem_singleton.mp q).symm
  exact ⟨T.ns.at' fun o q => k _ o (nin (Ne.symm b3)) q, fun b o e => k b o (fun q => by rw [T.out b (by rw [List.mem_singleton.mp q]; simp)] at e; cases e) (T.ext b o e), T.out, T.nd, IsCell.kb T.c1 (nin (Ne.symm c2)) k, IsCell.kb T.c2 (nin (Ne.symm d1)) k, c, let ⟨ps, p1, p2⟩ := T.tab; ⟨ps, k _ _ (nin (Ne.symm a4)) p1, p2⟩⟩
end
/-! ## computations that keep a state -/
noncomputable def InvCo {α : Type} (w : World) (A : Around) (t : Sem α) (I I' : Heap → Prop) (V : α → Prop) : Prop :=
  ∀ (s : Shared) (Q : α → Shared → Prop) (E : Value → Shared → Prop), I s.heap → (∀ v h' tk, V v → I' h' → Q v (St s h' tk)) → wpAny (model P w) A t Q E s
section
variable {w : World} {A : Around} {I I' I'' : Heap → Prop} {env : Env} {l r : Expr} {pos : Pos} {s : Shared} {tk₀ : Nat} {E : Value → Shared → Prop} {hp : Heap}
theorem InvCo.of {α : Type} {t : Sem α} {V : α → Prop} (x : ∀ h, I h → Co w A t h V) (up : ∀ h h', I h → Ext h h' → I h') : InvCo w A t I I V :=
  fun s Q E hI hQ => x s.heap hI s Q E (Ext.refl _) fun v h' tk hv e => hQ v h' tk hv (up _ _ hI e)
theorem InvCo.use {α : Type} {t : Sem α} {V : α → Prop} {Q : α → Shared → Prop} (x : InvCo w A t I I' V) (hI : I hp) (k : ∀ v h' tk, V v → I' h' → Q v (St s h' tk)) : wpAny (model P w) A t Q E (St s hp tk₀) := x (St s hp tk₀) Q E hI k
theorem inv_ne {a b : List Nat} (ha : InvCo w A (eval l env) I I' (IsS a)) (hb : InvCo w A (eval r env) I' I'' (IsS b)) (hm : behindInMarks .NotEq r = false := by rfl) :
    InvCo w A (PySem.isTrue (.Compare l [.NotEq] [r] pos) env (eval (.Compare l [.NotEq] [r] pos) env)) I I'' (fun c => c = decide (a ≠ b)) := by
  intro s Q E hI hQ
  refine wpAny_isTrue_Compare1 (ha s _ E hI fun u h₁ k₁ hv₁ i₁ => ?_) hm
  refine hb _ _ E i₁ fun v h₂ k₂ hv₂ i₂ => ?_
  obtain ⟨t, rfl⟩ := hv₁
  obtain ⟨t', rfl⟩ := hv₂
  refine PySem.P.ne_str ?_
  refine wpAny_truthy_bool ?_
  exact hQ _ h₂ _ (by
    show _ = decide (a ≠ b)
    by_cases e : a = b <;> simp [e]) i₂
theorem inv_or {x y : Expr} {a b : Bool} (hx : InvCo w A (PySem.isTrue x env (eval x env)) I I' (fun c => c = a)) (hy : InvCo w A (PySem.isTrue y env (eval y env)) I' I'' (fun c => c = b)) (ha : a = false) :
    InvCo w A (PySem.isTrue (.BoolOp .Or [x, y] pos) env (eval (.BoolOp .Or [x, y] pos) env)) I I'' (fun c => c = b) := by
  intro s Q E hI hQ
  refine isTrue_or (hx s _ E hI fun c h' tk hc i₁ => ?_)
  subst hc ha
  show wpAny _ _ _ _ _ _
  refine isTrue_or (hy _ _ E i₁ fun c h'' tk' hc i₂ => ?_)
  subst hc
  cases c with
  | true => exact hQ _ _ _ rfl i₂
  | false => exact isTrue_or_nil (hQ _ _ _ rfl i₂)
theorem ix_ifF {c : Bool} {body orelse : List Stmt} {e : Expr} {Q : Flow → Shared → Prop} (ht : InvCo w A (PySem.isTrue e env (eval e env)) I I' (fun b => b = c)) (hc : c = false) (hI : I hp)
    (k : ∀ h' tk, I' h' → wpAny (model P w) A (execs orelse env) Q E (St s h' tk)) : wpAny (model P w) A (exec (.If e body orelse pos) env) Q E (St s hp tk₀) := by
  refine wpAny_If (InvCo.use ht hI fun b h₁ k₁ hb i₁ => ?_)
  subst hb hc
  simpa using k h₁ k₁ i₁
end
end Mine

/-! ### V2 -/
open PySem PySem.W PyProof.Rows PySem.Calls
set_option Elab.async false
set_option maxRecDepth 100000
set_option maxHeartbeats 4000000
set_option linter.unusedVariables false
namespace Mine
/-- what the law's frame stands on -/
structure LC (mg mb : Str → Option Value) (cL PL : Addr) (hK : Heap) : Prop where
  lib : LawLib mg mb hK
  cd : CodeHd hK cL PL
  bm : ∃ bm o, mg "__builtins__" = some (.ref bm) ∧ bm ≠ builtinsNs ∧ bm ≠ mainGlobals ∧ bm ≠ PL ∧ hK.get? bm = some o ∧ o.cls = .type "module" ∧ o.dict = some builtinsNs ∧ o.data = .plain
theorem DefTup.keeps {h h' : Heap} {dV : Value} {items : Array Value} (x : DefTup h dV items) (e : Ext h h') : DefTup h' dV items := let ⟨T, o, n, a, b, c⟩ := x; ⟨T, o, n, a, e _ _ b, c⟩
theorem LawLib.keeps {mg mb : Str → Option Value} {h h' : Heap} (x : LawLib mg mb h) (e : Ext h h') : LawLib mg mb h' where
  lib := x.lib.keeps e
  enc := let ⟨a, dV, t1, t2, h1, h2, h3⟩ := x.enc; ⟨a, dV, t1, t2, h1, h2.keeps e, h3.keeps e⟩
  dec := let ⟨a, dV, u, h1, h2, h3⟩ := x.dec; ⟨a, dV, u, h1, h2.keeps e, h3.keeps e⟩
  red := let ⟨ma, a, dV, h0, h1, h2, h3⟩ := x.red; ⟨ma, a, dV, h0, h1, h2.keeps e, h3.keeps e⟩
  parts := let ⟨a, h1, h2⟩ := x.parts; ⟨a, h1, h2.keeps e⟩
  rows := let ⟨a, h1, h2⟩ := x.rows; ⟨a, h1, h2.keeps e⟩
  raw := let ⟨a, h1, h2⟩ := x.raw; ⟨a, h1, h2.keeps e⟩
  law := let ⟨a, h1, h2⟩ := x.law; ⟨a, h1, h2.keeps e⟩
theorem LC.keeps {mg mb : Str → Option Value} {cL PL : Addr} {h h' : Heap} (x : LC mg mb cL PL h) (e : Ext h h') : LC mg mb cL PL h' :=
  ⟨x.lib.keeps e, x.cd.keeps e, let ⟨bm, o, a, b, c, d, q, r⟩ := x.bm; ⟨bm, o, a, b, c, d, e _ _ q, r⟩⟩
noncomputable abbrev lenv (L aL cL : Addr) : Env := envOfC "law" (fScope (stAt 28)) L aL (.ref cL)
section
variable {w : World} {A : Around} {hK hp : Heap} {PL L cl ce cw aL cL : Addr} {l : FrL} {vl ve vw : Option Value} {n : Nat} {s : Shared} {tk₀ : Nat} {E : Value → Shared → Prop} {pos px p₁ p₂ p₃ : Pos} {x : Str} {e : Expr} {mg mb : Str → Option Value}
theorem lam_make {Q : Value → Shared → Prop} {params : Arguments} {body : Expr} {scope : Scope} {clos : List (Str × Addr)} (C : LC mg mb cL PL hK) (T : LS hK PL L cl ce cw l vl ve vw n hp) (hn : n ≤ pos.line)
    (hcl : closureFor scope (lenv L aL cL) = pure clos) (hdef : defaultsOf params (lenv L aL cL) = ([], []))
    (k : ∀ f c' ctv pm h' tk, hp.get? f = none → h'.get? f = some (kla_obj "<lambda>" ((lenv L aL cL).qual ++ "<lambda>") params body scope clos pm c' ctv) → h'.CodeRec (.ref c') ((lenv L aL cL).qual ++ "<lambda>") → LS hK PL L cl ce cw l vl ve vw (pos.line + 1) h' → Q (.ref f) (St s h' tk)) :
    wpAny (model P w) A (eval (.Lambda params body scope pos) (lenv L aL cL)) Q E (St s hp tk₀) := by
  refine kla_eval hdef ?_
  obtain ⟨ps, hP, hlt, htr⟩ := T.tab
  obtain ⟨a1, a2, a3, a4, b1, b2, b3, c1, c2, d1⟩ := T.nes
  have hg : (St s hp tk₀).heap.Ns mainGlobals mg := C.lib.lib.g.keeps T.ext
  have hgP : mainGlobals ≠ PL := fun q => by
    obtain ⟨o, _, _, ho, _⟩ := C.lib.lib.g
    have := T.out PL (by simp)
    rw [← q, ho] at this; cases this
  obtain ⟨bm, o, m1, m2, m3, m4, m5, m6⟩ := C.bm
  refine kla_makeFunction (s := St s hp tk₀) (mg := mg) (c := cL) (P := PL) (ps := ps) hcl rfl hg rfl (C.cd.keeps T.ext) hP htr (hlt pos hn) hgP ⟨bm, o, m1, m2, m3, m4, T.ext _ _ m5, m6⟩ fun c' ctv h' tk hx hge hlt' hrec htb => ?_
  have hx' : Heap.ExtBut PL hp h' := hx
  have keep : ∀ {b : Addr} {ob : Obj} {o' : Obj}, b ≠ PL → hp.get? b = some ob → (h'.push o').get? b = some ob := fun hb e => Heap.get?_push_of_some _ (hx' _ _ hb e)
  have hpf : hp.get? h'.objs.size = none := by
    cases hq : hp.get? h'.objs.size with
    | none => rfl
    | some ob =>
      have := Heap.lt_size hq
      have hge' : hp.objs.size ≤ c' := hge
      exact absurd (Nat.lt_of_lt_of_le this (Nat.le_trans hge' (Nat.le_of_lt hlt'))) (Nat.lt_irrefl _)
  refine k h'.objs.size c' ctv _ _ tk hpf (Heap.get?_push_size _ rfl) (hrec.keeps fun b o e => Heap.get?_push_of_some _ e) ?_
  refine ⟨T.ns.at' fun o q => keep (Ne.symm a1) q, fun b o e => keep (fun q => by rw [q, T.out PL (by simp)] at e; cases e) (T.ext b o e), T.out, T.nd, ?_, ?_, ?_, _, Heap.get?_push_of_some _ htb, hlt.snoc htr hn, ?_⟩
  · obtain ⟨o, q1, q2⟩ := T.c1; exact ⟨o, keep (Ne.symm a2) q1, q2⟩
  · obtain ⟨o, q1, q2⟩ := T.c2; exact ⟨o, keep (Ne.symm a3) q1, q2⟩
  · obtain ⟨o, q1, q2⟩ := T.c3; exact ⟨o, keep (Ne.symm a4) q1, q2⟩
  · rw [Array.toList_append]
    exact TriplesOk_snoc _ _ _ _ htr
/-- reduce(lambda .., drawn) -/
theorem red2 {params : Arguments} {body : Expr} {scope : Scope} {clos : List (Str × Addr)} {D : Addr} {xs : List (List Nat)} {x₀ : List Nat} {g : List Nat → List Nat → List Nat} {dr : Str} (C : LC mg mb cL PL hK) (hD : IsStrL hK D xs) (hdr : fr l dr = some (.ref D))
    (hr : A.depth + 60 < recursionLimit) (hh : A.handled = none) (hx0 : xs[0]? = some x₀) (hn : n ≤ p₁.line) (hcl : closureFor scope (lenv L aL cL) = pure clos) (hdef : defaultsOf params (lenv L aL cL) = ([], []))
    (hlam : ∀ f c' ctv pm h' A', LS hK PL L cl ce cw l vl ve vw (p₁.line + 1) h' → h'.get? f = some (kla_obj "<lambda>" ((lenv L aL cL).qual ++ "<lambda>") params body scope clos pm c' ctv) → h'.CodeRec (.ref c') ((lenv L aL cL).qual ++ "<lambda>") → A'.depth = A.depth + 1 → A'.handled = none →
      ∀ i x t u, xs[i]? = some x → 1 ≤ i → Co w A' (call (.ref f) [.str (S (foldT g x₀ ((xs.take i).drop 1))) t, .str (S x) u]) h' (IsS (g (foldT g x₀ ((xs.take i).drop 1)) x)))
    (hl : (lenv L aL cL).kindOf dr = some .local) (hd : (dr == ("__debug__" : Str)) = false)
    (hs : starEach [.Lambda params body scope p₁, .Name dr p₂] (lenv L aL cL) = [(false, eval (.Lambda params body scope p₁) (lenv L aL cL)), (false, eval (.Name dr p₂) (lenv L aL cL))] := by rfl) (hs₂ : starEach [.Name dr p₂] (lenv L aL cL) = [(false, eval (.Name dr p₂) (lenv L aL cL))] := by rfl) :
    InvCo w A (eval (.Call (.Name (Str.ofString "reduce") px) [.Lambda params body scope p₁, .Name dr p₂] [] pos) (lenv L aL cL)) (LS hK PL L cl ce cw l vl ve vw n) (LS hK PL L cl ce cw l vl ve vw (p₁.line + 1)) (IsS (foldT g x₀ (xs.drop 1))) := by
  intro s Q E hI hQ
  obtain ⟨ma, a, dV, hm, ha, hfn, hdV⟩ := C.lib.red
  obtain ⟨o, kV, doc, pm, an, cd, ct, ho, hod, hcd⟩ := id hfn
  refine Call_ (Co.use (s := s) (tk₀ := s.toks) (ev_global (w := w) (A := A) (env := lenv L aL cL) (h := s.heap) (C.lib.lib.g.keeps hI.ext) ha) (Ext.refl _) fun fv h₁ k₁ hv₁ e₁ => ?_)
  subst hv₁
  refine callWith_def hod (args_cons (lam_make (s := s) C (hI.up e₁) hn hcl hdef fun f c' ctv pm' h₂ k₂ _ hf hrec T₂ => args_cons (Co.use (s := s) (ev_local (w := w) (A := A) (env := lenv L aL cL) (h := h₂) (l := l) T₂.ns hdr rfl hl hd) (Ext.refl _) fun u h₃ k₃ hu e₃ => args_nil ?_) (by rw [hs₂]; rfl)) (by rw [hs, hs₂])) (by rw [hs, hs₂])
  subst hu
  have T₃ := T₂.up e₃
  refine ⟨T₃.ext _ _ ho, ?_⟩
  refine Co.use (s := s) (reduce_spec2 (w := w) (A := A) (h := h₃) (g := g) (xs := xs) (x₀ := x₀) (C.lib.lib.keeps T₃.ext) hm (hfn.keeps T₃.ext) (hdV.keeps T₃.ext) (by omega) hh (hD.up T₃.ext) (e₃ _ _ hf) rfl hx0 ?_) (Ext.refl _) fun v h₄ k₄ hv e₄ => ?_
  · intro A' i x t u hd' hh' hi hx
    exact (hlam f c' ctv pm' h₂ A' T₂ hf hrec hd' hh' i x t u hx hi).up e₃
  · exact hQ v h₄ k₄ hv (T₃.up e₄)
/-- reduce(lambda .., drawn, '') -/
theorem red3 {params : Arguments} {body : Expr} {scope : Scope} {clos : List (Str × Addr)} {D : Addr} {xs : List (List Nat)} {g : List Nat → List Nat → List Nat} {dr : Str} {k₀ : Nat} {sx : Str} (hsx : sx = S []) (C : LC mg mb cL PL hK) (hD : IsStrL hK D xs) (hdr : fr l dr = some (.ref D))
    (hr : A.depth + 60 < recursionLimit) (hh : A.handled = none) (hn : n ≤ p₁.line) (hcl : closureFor scope (lenv L aL cL) = pure clos) (hdef : defaultsOf params (lenv L aL cL) = ([], []))
    (hlam : ∀ f c' ctv pm h' A', LS hK PL L cl ce cw l vl ve vw (p₁.line + 1) h' → h'.get? f = some (kla_obj "<lambda>" ((lenv L aL cL).qual ++ "<lambda>") params body scope clos pm c' ctv) → h'.CodeRec (.ref c') ((lenv L aL cL).qual ++ "<lambda>") → A'.depth = A.depth + 1 → A'.handled = none →
      ∀ i x t u, xs[i]? = some x → Co w A' (call (.ref f) [.str (S (foldT g [] (xs.take i))) t, .str (S x) u]) h' (IsS (g (foldT g [] (xs.take i)) x)))
    (hl : (lenv L aL cL).kindOf dr = some .local) (hd : (dr == ("__debug__" : Str)) = false)
    (hs : starEach [.Lambda params body scope p₁, .Name dr p₂, .Constant (.str sx) k₀ p₃] (lenv L aL cL) = [(false, eval (.Lambda params body scope p₁) (lenv L aL cL)), (false, eval (.Name dr p₂) (lenv L aL cL)), (false, eval (.Constant (.str sx) k₀ p₃) (lenv L aL cL))] := by rfl)
    (hs₂ : starEach [.Name dr p₂, .Constant (.str sx) k₀ p₃] (lenv L aL cL) = [(false, eval (.Name dr p₂) (lenv L aL cL)), (false, eval (.Constant (.str sx) k₀ p₃) (lenv L aL cL))] := by rfl)
    (hs₃ : starEach [.Constant (.str sx) k₀ p₃] (lenv L aL cL) = [(false, eval (.Constant (.str sx) k₀ p₃) (lenv L aL cL))] := by rfl) :
    InvCo w A (eval (.Call (.Name (Str.ofString "reduce") px) [.Lambda params body scope p₁, .Name dr p₂, .Constant (.str sx) k₀ p₃] [] pos) (lenv L aL cL)) (LS hK PL L cl ce cw l vl ve vw n) (LS hK PL L cl ce cw l vl ve vw (p₁.line + 1)) (IsS (foldT g [] xs)) := by
  intro s Q E hI hQ
  obtain ⟨ma, a, dV, hm, ha, hfn, hdV⟩ := C.lib.red
  obtain ⟨o, kV, doc, pm, an, cd, ct, ho, hod, hcd⟩ := id hfn
  refine Call_ (Co.use (s := s) (tk₀ := s.toks) (ev_global (w := w) (A := A) (env := lenv L aL cL) (h := s.heap) (C.lib.lib.g.keeps hI.ext) ha) (Ext.refl _) fun fv h₁ k₁ hv₁ e₁ => ?_)
  subst hv₁
  refine callWith_def hod (args_cons (lam_make (s := s) C (hI.up e₁) hn hcl hdef fun f c' ctv pm' h₂ k₂ _ hf hrec T₂ => args_cons (Co.use (s := s) (ev_local (w := w) (A := A) (env := lenv L aL cL) (h := h₂) (l := l) T₂.ns hdr rfl hl hd) (Ext.refl _) fun u h₃ k₃ hu e₃ => args_cons (Co.use (s := s) (ev_str (w := w) (A := A) (env := lenv L aL cL) (h := h₃) (a := []) (x := sx) (k := k₀) (pos := p₃) hsx) (Ext.refl _) fun z h₄ k₄ hz e₄ => args_nil ?_) (by rw [hs₃]; rfl)) (by rw [hs₂, hs₃])) (by rw [hs, hs₂])) (by rw [hs, hs₂])
  subst hu
  obtain ⟨tz, rfl⟩ := hz
  have T₄ := T₂.up (e₃.trans e₄)
  refine ⟨T₄.ext _ _ ho, ?_⟩
  refine Co.use (s := s) (reduce_spec3 (w := w) (A := A) (h := h₄) (g := g) (xs := xs) (x₀ := []) (C.lib.lib.keeps T₄.ext) hm (hfn.keeps T₄.ext) (hdV.keeps T₄.ext) (by omega) hh (hD.up T₄.ext) ((e₃.trans e₄) _ _ hf) rfl ?_) (Ext.refl _) fun v h₅ k₅ hv e₅ => ?_
  · intro A' i x t u hd' hh' hx
    exact (hlam f c' ctv pm' h₂ A' T₂ hf hrec hd' hh' i x t u hx).up (e₃.trans e₄)
  · exact hQ v h₅ k₅ hv (T₄.up e₅)
end
end Mine

/-! ### V3 -/
open PySem PySem.W PyProof.Rows PySem.Calls
set_option Elab.async false
set_option maxRecDepth 100000
set_option maxHeartbeats 4000000
set_option linter.unusedVariables false
namespace Mine
open Builtin Builtin.Str in
/-- a call of replace with fresh texts -/
theorem call_repl {w : World} {A : Around} {s : Shared} {E : Value → Shared → Prop} {x y z : PySem.Str} {t u v : Tok} {Q : Value → Shared → Prop} (hu : u ≠ 0) (hv : v ≠ 0) (huv : u ≠ v) (hyz : (y == z) = false) (hb : x.length + (x.length + 1) * z.length ≤ 16777216)
    (hq : ∀ t' k, s.toks ≤ k → Q (.str (Txt.replace x y z) t') { s with toks := k }) : wpAny (model P w) A (call (.builtin "str.replace") [.str x t, .str y u, .str z v]) Q E s := by
  have hl : tooLong (x.length + (occurrences x y 0 x.length (x.length + 1)).length * z.length) = false := by
    have h1 := StrLaws.occ_length_le x y 0 x.length (x.length + 1)
    have h2 : (occurrences x y 0 x.length (x.length + 1)).length * z.length ≤ (x.length + 1) * z.length := Nat.mul_le_mul_right _ h1
    unfold tooLong sizeLine
    exact decide_eq_false (by omega)
  refine call_gives PySem.F.slot_str_replace (typeIs_str _ _ _) PySem.F.entry_str_replace (PySem.F.args_str_replace_3 _ _ _) (gives_str_replace x y z t u v fun _ => ⟨by simp [hu, hv], by simp [huv], hyz, hl⟩) ?_
  have hq' := hq
  unfold Txt.replace at hq'
  cases hc : ((occurrences x y 0 x.length (x.length + 1)).isEmpty || (y.length == 0 && z.length == 0))
  · rw [hc] at hq'
    simp only [Bool.false_eq_true, if_false] at hq' ⊢
    exact ⟨fits_replaced y hb, hq' _ _ (Nat.le_succ _)⟩
  · rw [hc] at hq'
    simp only [if_true] at hq' ⊢
    exact hq' t s.toks (Nat.le_refl _)
/-- computations behind a first token -/
noncomputable def CoT {α : Type} (w : World) (A : Around) (t : Sem α) (h : Heap) (V : α → Prop) : Prop :=
  ∀ (s : Shared) (Q : α → Shared → Prop) (E : Value → Shared → Prop), Ext h s.heap → 1 ≤ s.toks → (∀ v h' tk, V v → Ext s.heap h' → 1 ≤ tk → Q v (St s h' tk)) → wpAny (model P w) A t Q E s
section
variable {w : World} {A : Around} {h hp : Heap} {env : Env} {pos px apos p₁ p₂ p₃ : Pos} {o e : Expr} {a : List Nat} {x : Str}
theorem ct_local {l : FrL} {v : Value} (hn : h.Ns env.locals (fr l)) (hv : fr l x = some v)
    (hk : env.scope.kind = .function := by rfl) (hl : env.kindOf x = some .local := by rfl) (hd : (x == ("__debug__" : Str)) = false := by rfl) : CoT w A (eval (.Name x pos) env) h (IsV v) :=
  fun s _ _ e ht hQ => nmL (hn.keeps e) hv (hQ v s.heap s.toks rfl (Ext.refl _) ht) hk hl hd
theorem ct_repl {y z r : List Nat} {k₁ k₂ : Nat} {ys zs : Str} (hy : ys = S y) (hz : zs = S z) (ho : CoT w A (eval o env) h (IsS a)) (hyz : y ≠ z) (hr : Txt.replace (S a) (S y) (S z) = S r) (hsz : a.length + (a.length + 1) * z.length ≤ 16777216)
    (hb : attributeBase o "replace" env (eval o env) = eval o env := by rfl) (hl : (apos.endLine == pos.line) = true := by rfl)
    (hs : starEach [.Constant (.str ys) k₁ p₁, .Constant (.str zs) k₂ p₂] env = [(false, eval (.Constant (.str ys) k₁ p₁) env), (false, eval (.Constant (.str zs) k₂ p₂) env)] := by rfl)
    (hs₂ : starEach [.Constant (.str zs) k₂ p₂] env = [(false, eval (.Constant (.str zs) k₂ p₂) env)] := by rfl) :
    CoT w A (eval (.Call (.Attribute o "replace" apos) [.Constant (.str ys) k₁ p₁, .Constant (.str zs) k₂ p₂] [] pos) env) h (IsS r) := by
  intro s Q E hI ht hQ
  refine wpAny_Call_method_lateS hb (by rw [hs]; rfl) hl (ho s _ E hI ht fun v h₁ k₁ hv₁ e₁ ht₁ => ?_)
  obtain ⟨t, rfl⟩ := hv₁
  refine ⟨"str", "str.replace", F.plainAttrs_str, F.slot_str_replace, F.type_str_replace, typeIs_str _ _ _, (fun _ e => nomatch e), callWith_method1 (args_cons (Constant_str (args_cons (Constant_str (args_nil ?_)) (by rw [hs₂]; rfl))) (by rw [hs, hs₂])) (by rw [hs, hs₂]) (by rw [hs₂]; rfl)⟩
  subst hy hz
  refine call_repl (s := { St s h₁ k₁ with toks := k₁ + 1 + 1 }) ?_ ?_ ?_ ?_ (by rw [S_len, S_len]; exact hsz) fun t' k hk => ?_
  · exact Nat.ne_of_gt ht₁
  · exact Nat.succ_ne_zero _
  · exact Nat.ne_of_lt (Nat.lt_succ_self _)
  · rw [beq_eq_false_iff_ne]
    exact fun q => hyz (S_inj.mp q)
  · rw [hr]
    exact hQ _ h₁ k ⟨t', rfl⟩ e₁ (by have : k₁ + 1 + 1 ≤ k := hk; omega)
/-- a cut of a list that may be a temporary -/
theorem subs_slice {value : Expr} {up : Option Expr} {p : Pos} {s : Shared} {Q : Value → Shared → Prop} {E : Value → Shared → Prop}
    (hq : wpAny (model P w) A (eval value env) (fun o s₁ => wpAny (model P w) A (evalPart up env) (fun vu s₂ => ∃ D items hi, o = .ref D ∧ s₂.heap.IsList D items ∧ items.size ≤ sizeLine ∧ IsPart vu hi ∧
      Q (.ref (s₂.heap.objs.size + 1)) { s₂ with heap := (s₂.heap.push { cls := .type "slice", data := .fields #[.none, vu, .none] }).push { cls := .type "list", data := .seq (slicePick items none hi none) } }) E s₁) E s) :
    wpAny (model P w) A (eval (.Subscript value (.Slice none up none p) pos) env) Q E s := by
  rw [eval_Subscript]
  refine wpAny_bind (wpAny_mono hq (fun o s₁ h₁ => wpAny_bind (wpAny_holding (wpAny_Slice ?_))) fun _ _ x => x)
  rw [evalPart_none]
  refine wpAny_pure (wpAny_mono h₁ (fun vu s₂ h₂ => ?_) fun _ _ x => x)
  refine wpAny_pure (wpAny_bind (wpAny_standAt ?_))
  obtain ⟨D, items, hi, rfl, hl, hsz, pu, hQ⟩ := h₂
  have hT := (hl.push { cls := .type "slice", data := .fields #[.none, vu, .none] }).typeIs (s := { s₂ with heap := s₂.heap.push { cls := .type "slice", data := .fields #[.none, vu, .none] } })
  have fin : wpAny (model P w) A (operate [.ref s₂.heap.objs.size, .ref D] (getItem (.ref D) (.ref s₂.heap.objs.size))) (fun r s₃ => wpAny (model P w) A (letTemporaryGo value (.ref D) r >>= fun _ => pure r) Q E s₃) E { s₂ with heap := s₂.heap.push { cls := .type "slice", data := .fields #[.none, vu, .none] } } := by
    refine wpAny_operating (wpAny_getItem_list_slice (s := { s₂ with heap := s₂.heap.push { cls := .type "slice", data := .fields #[.none, vu, .none] } }) (hl.push _) (Heap.IsSliceOf.new ..) .none pu .none (by simp) ?_ hsz)
    refine wpAny_bind (wpAny_letTemporaryGo (wpAny_pure ?_))
    rw [Heap.size_push]
    exact hQ
  refine wpAny_bind ?_
  rw [getitemInPython_of_ne hT.not_modules]
  refine wpAny_bind (wpAny_specialOf hT list_getitem_lookup ?_)
  first
    | exact wpAny_pure (wpAny_bind fin)
    | exact wpAny_bind (wpAny_pure (wpAny_bind fin))
    | exact wpAny_bind fin
/-- o.split(y)[:-1] -/
theorem ct_split {y : List Nat} {xs : List (List Nat)} {k₁ k₂ : Nat} {ys : Str} (hy : ys = S y) (hyn : y ≠ []) (ho : CoT w A (eval o env) h (IsS a)) (hx : Txt.split (S a) (S y) = xs.map S) (hsz : a.length + 2 ≤ sizeLine) (hxl : xs.length ≤ sizeLine)
    (hb : attributeBase o "split" env (eval o env) = eval o env := by rfl) (hl : (apos.endLine == p₂.line) = true := by rfl)
    (hs : starEach [.Constant (.str ys) k₁ p₁] env = [(false, eval (.Constant (.str ys) k₁ p₁) env)] := by rfl)
    {s : Shared} {Q : Value → Shared → Prop} {E : Value → Shared → Prop} {p₄ p₅ p₆ : Pos} (hI : Ext h s.heap) (htk : 1 ≤ s.toks)
    (hQ : ∀ v h' tk, (∃ D, v = .ref D ∧ h.get? D = none ∧ IsStrL h' D xs.dropLast) → Ext s.heap h' → Q v (St s h' tk)) :
    wpAny (model P w) A (eval (.Subscript (.Call (.Attribute o "split" apos) [.Constant (.str ys) k₁ p₁] [] p₂) (.Slice none (some (.UnaryOp .USub (.Constant (.int 1) k₂ p₄) p₅)) none p₆) pos) env) Q E s := by
  subst hy
  refine subs_slice (wpAny_Call_method_lateS hb (by rw [hs]; rfl) hl (ho s _ E hI htk fun v h₁ k₁ hv₁ e₁ ht₁ => ?_))
  obtain ⟨t, rfl⟩ := hv₁
  refine ⟨"str", "str.split", F.plainAttrs_str, F.slot_str_split, F.type_str_split, typeIs_str _ _ _, (fun _ e => nomatch e), callWith_method1 (args_cons (Constant_str (args_nil ?_)) (by rw [hs]; rfl)) (by rw [hs]; rfl)⟩
  refine CoH.use (s := s) (co_split (w := w) (A := A) (h := h₁) hyn hx hsz) (Ext.refl _) fun v h₂ k₂ hv₂ e₂ => ?_
  obtain ⟨D, rfl, hD, vs, hl2, hvs⟩ := hv₂
  refine Co.use (s := s) (pt_some (ev_neg (w := w) (A := A) (env := env) (h := h₂) (pos := p₅) (ev_int (i := 1) (k := _) (pos := p₄)))) (Ext.refl _) fun vu h₃ k₃ hu e₃ => ?_
  obtain ⟨qu, rfl, hqu⟩ := hu
  have part : ∀ q : Option (Int × Tok), IsPart (partValue q) (q.map (·.1)) := fun q => by
    cases q with
    | none => exact .none
    | some v => exact .int _ _
  have hvl : vs.length = xs.length := by rw [hvs.len_eq]; simp
  refine ⟨D, vs.toArray, some (-1), rfl, hl2.at fun ob q => e₃ _ ob q, by simpa [hvl] using hxl, hqu ▸ part qu, ?_⟩
  have e123 := (e₁.trans e₂).trans e₃
  refine hQ _ _ _ ⟨_, rfl, ?_, vs.dropLast, ?_, strs_dropLast hvs⟩ (e123.trans ((Ext.push _ _).trans (Ext.push _ _)))
  · have := fresh_size (h := h₃.push { cls := .type "slice", data := .fields #[.none, partValue qu, .none] }) ((hI.trans e123).trans (Ext.push _ _))
    rwa [Heap.size_push] at this
  · have := Heap.get?_push_size (h := h₃.push { cls := .type "slice", data := .fields #[.none, partValue qu, .none] }) (o := { cls := .type "list", data := .seq (slicePick vs.toArray none (some (-1)) none) }) rfl
    rw [Heap.size_push] at this
    refine ⟨_, this, rfl, 0, ?_⟩
    have e := slicePick_butLast vs.toArray 1 (by decide)
    rw [show (-((1 : Nat) : Int)) = -1 by rfl] at e
    rw [e]
    simp [List.dropLast_eq_take]
end
section
variable {w : World} {A : Around} {hK hp : Heap} {PL L cl ce cw : Addr} {l : FrL} {vl ve vw : Option Value} {n n' : Nat} {s : Shared} {tk₀ : Nat} {E : Value → Shared → Prop} {Q : Flow → Shared → Prop} {pos px : Pos} {x : Str} {e : Expr} {env : Env}
/-- a name bound to what may make a lambda -/
theorem ix_assign {V : Value → Prop} (T : LS hK PL L cl ce cw l vl ve vw n hp) (he : InvCo w A (eval e env) (LS hK PL L cl ce cw l vl ve vw n) (LS hK PL L cl ce cw l vl ve vw n') V) (hL : env.locals = L)
    (k : ∀ v h' tk, V v → 1 ≤ tk → LS hK PL L cl ce cw (setL l x v) vl ve vw n' h' → Q .next (St s h' tk))
    (hk : env.scope.kind = .function := by rfl) (hl : env.kindOf x = some .local := by rfl) (hsw : swapsWith e (some (.Name x px)) pos.line env = pure false := by rfl) :
    wpAny (model P w) A (exec (.Assign [.Name x px] e pos) env) Q E (St s hp tk₀) := by
  subst hL
  refine wpAny_Assign_Name (InvCo.use he T fun v h₁ k₁ hv T₁ => ?_) hsw
  refine stL (s := St s h₁ k₁) T₁.ns (fun h₂ hn hs => ?_) hk hl
  obtain ⟨a1, a2, a3, a4, b1, b2, b3, c1, c2, d1⟩ := T₁.nes
  have kb : KB [env.locals] h₁ h₂ := KB.of_same (by simp) hs
  have nin : ∀ {a b : Addr}, b ≠ a → a ∉ [b] := fun hab q => hab (List.mem_singleton.mp q).symm
  refine k v h₂ (k₁ + 1) hv (Nat.succ_pos _) ?_
  exact ⟨hn, fun b o q => kb b o (fun z => by rw [T₁.out b (by rw [List.mem_singleton.mp z]; simp)] at q; cases q) (T₁.ext b o q), T₁.out, T₁.nd, IsCell.kb T₁.c1 (nin b1) kb, IsCell.kb T₁.c2 (nin b2) kb, IsCell.kb T₁.c3 (nin b3) kb, let ⟨ps, p1, p2⟩ := T₁.tab; ⟨ps, kb _ _ (nin (Ne.symm a1)) p1, p2⟩⟩
end
end Mine

/-! ### V4 -/
open PySem PySem.W PyProof.Rows PySem.Calls
set_option Elab.async false
set_option maxRecDepth 100000
set_option maxHeartbeats 4000000
set_option linter.unusedVariables false
namespace Mine
/-! ## comprehensions with two clauses -/
section
variable {w : World} {A : Around} {R : Result → Shared → Prop} {s : Shared} {elt t1 t2 i1 i2 : Expr} {scope : Scope} {pos : Pos} {it acc : Value} {env : Env}
theorem turn_out : compTurn (.ListComp elt [⟨t1, i1, [], 0⟩, ⟨t2, i2, [], 0⟩] scope pos) 0 it acc env = (standAt i1.pos >>= fun _ => pyNext it >>= fun r => match r with
    | none => pure (.done .next)
    | some v => letOwnedTupleGo t1 it v >>= fun _ => assign t1 env v >>= fun _ =>
      (eval i2 env >>= fun x => standAt i2.pos >>= fun _ => foldedSetIterable i2 env x >>= fun x => holding [x] (pyIter x) >>= fun it2 => runOwn (.compStart (.ListComp elt [⟨t1, i1, [], 0⟩, ⟨t2, i2, [], 0⟩] scope pos) 1 it2 acc env) env >>= fun _ =>
        again (.compLoop (.ListComp elt [⟨t1, i1, [], 0⟩, ⟨t2, i2, [], 0⟩] scope pos) 0 it acc env))) := by rfl
theorem turn_in : compTurn (.ListComp elt [⟨t1, i1, [], 0⟩, ⟨t2, i2, [], 0⟩] scope pos) 1 it acc env = (standAt i2.pos >>= fun _ => pyNext it >>= fun r => match r with
    | none => pure (.done .next)
    | some v => letOwnedTupleGo t2 it v >>= fun _ => assign t2 env v >>= fun _ =>
      (eval elt env >>= fun x => call (.builtin "list.append") [acc, x] >>= fun _ => pure ()) >>= fun _ =>
        again (.compLoop (.ListComp elt [⟨t1, i1, [], 0⟩, ⟨t2, i2, [], 0⟩] scope pos) 1 it acc env)) := by rfl
theorem loop_in (I : Nat → Shared → Prop)
    (turn : ∀ n s E', I n s → wpAny (model P w) A (pyNext it) (fun r s₁ => match r with
      | none => R (.ok .next) s₁
      | some v => wpAny (model P w) A (assign t2 env v) (fun _ s₂ => wpAny (model P w) A (eval elt env) (fun x s₃ =>
          wpAny (model P w) A (call (.builtin "list.append") [acc, x]) (fun _ s₄ => ∃ m, m < n ∧ I m s₄) E' s₃) E' s₂) E' s₁) E' s)
    (n : Nat) (h : I n s) (ht : ∀ v, letOwnedTupleGo t2 it v = pure () := by intro _; rfl) :
    codeAny (model P w) A (.compLoop (.ListComp elt [⟨t1, i1, [], 0⟩, ⟨t2, i2, [], 0⟩] scope pos) 1 it acc env) R s := by
  refine codeAny_loop rfl I (fun n s hI => ?_) n h
  show wpAny _ A ((compTurn (.ListComp elt [⟨t1, i1, [], 0⟩, ⟨t2, i2, [], 0⟩] scope pos) 1 it acc env).onRaise (fun x => do noteFrame x env; theTreesLotGoes x)) _ _ s
  refine wpAny_noted ?_
  rw [turn_in]
  refine wpAny_bind (wpAny_standAt (wpAny_bind (wpAny_mono (turn n s _ hI) (fun r s₁ h₁ => ?_) fun _ _ h' => h')))
  cases r with
  | none => exact wpAny_pure h₁
  | some v =>
    refine wpAny_bind (wpAny_of_eq (ht v) ?_)
    exact wpAny_bind (wpAny_mono h₁ (fun _ s₂ h₂ => wpAny_bind (wpAny_bind (wpAny_mono h₂ (fun x s₃ h₃ => wpAny_bind (wpAny_mono h₃ (fun _ s₄ h₄ => wpAny_pure (wpAny_pure ⟨rfl, h₄⟩)) fun _ _ h' => h')) fun _ _ h' => h'))) fun _ _ h' => h')
theorem start_in
    (h0 : codeAny (model P w) A (.compLoop (.ListComp elt [⟨t1, i1, [], 0⟩, ⟨t2, i2, [], 0⟩] scope pos) 1 it acc env) R s)
    (h : ∀ E', wpAny (model P w) A (pyIter it) (fun it' s' => codeAny (model P w) A (.compLoop (.ListComp elt [⟨t1, i1, [], 0⟩, ⟨t2, i2, [], 0⟩] scope pos) 1 it' acc env) R s') E' s) :
    codeAny (model P w) A (.compStart (.ListComp elt [⟨t1, i1, [], 0⟩, ⟨t2, i2, [], 0⟩] scope pos) 1 it acc env) R s := by
  refine codeAny_of_tree ?_
  show wpAny _ _ ((compStart (.ListComp elt [⟨t1, i1, [], 0⟩, ⟨t2, i2, [], 0⟩] scope pos) 1 it acc env).onRaise (fun x => do noteFrame x env; standAt theWindowsPlace)) _ _ s
  refine wpAny_notedAt ?_
  unfold compStart
  show wpAny _ _ (ask >>= _) _ _ s
  refine wpAny_bind (wpAny_askSetting (wpAny_ite ?_))
  split
  · first
      | exact wpAny_bind (wpAny_pure (wpAny_pure (And.intro rfl h0)))
      | exact wpAny_pure (And.intro rfl h0)
  · first
      | exact wpAny_bind (wpAny_rule (wpAny_bind (wpAny_standAt (wpAny_bind (wpAny_mono (h _) (fun it' s' h' => wpAny_pure (And.intro rfl h')) fun _ _ x => x)))))
      | (refine wpAny_bind (wpAny_rule ?_); show wpAny _ _ (standAt i2.pos >>= _) _ _ s; exact wpAny_bind (wpAny_standAt (wpAny_bind (wpAny_mono (h _) (fun it' s' h' => wpAny_pure (And.intro rfl h')) fun _ _ x => x))))
theorem loop_out (I : Nat → Shared → Prop)
    (turn : ∀ n s E', I n s → wpAny (model P w) A (pyNext it) (fun r s₁ => match r with
      | none => R (.ok .next) s₁
      | some v => wpAny (model P w) A (assign t1 env v) (fun _ s₂ => wpAny (model P w) A (eval i2 env) (fun x s₃ => wpAny (model P w) A (pyIter x) (fun it2 s₄ =>
          ∀ R₂ : Result → Shared → Prop, (∀ s₅, (∃ m, m < n ∧ I m s₅) → R₂ (.ok .next) s₅) → codeAny (model P w) A (.compStart (.ListComp elt [⟨t1, i1, [], 0⟩, ⟨t2, i2, [], 0⟩] scope pos) 1 it2 acc env) R₂ s₄) E' s₃) E' s₂) E' s₁) E' s)
    (n : Nat) (h : I n s) (ht : ∀ v, letOwnedTupleGo t1 it v = pure () := by intro _; rfl) (hs : ∀ x, foldedSetIterable i2 env x = pure x := by intro _; rfl) :
    codeAny (model P w) A (.compLoop (.ListComp elt [⟨t1, i1, [], 0⟩, ⟨t2, i2, [], 0⟩] scope pos) 0 it acc env) R s := by
  refine codeAny_loop rfl I (fun n s hI => ?_) n h
  show wpAny _ A ((compTurn (.ListComp elt [⟨t1, i1, [], 0⟩, ⟨t2, i2, [], 0⟩] scope pos) 0 it acc env).onRaise (fun x => do noteFrame x env; theTreesLotGoes x)) _ _ s
  refine wpAny_noted ?_
  rw [turn_out]
  refine wpAny_bind (wpAny_standAt (wpAny_bind (wpAny_mono (turn n s _ hI) (fun r s₁ h₁ => ?_) fun _ _ h' => h')))
  cases r with
  | none => exact wpAny_pure h₁
  | some v =>
    refine wpAny_bind (wpAny_of_eq (ht v) ?_)
    refine wpAny_bind (wpAny_mono h₁ (fun _ s₂ h₂ => wpAny_bind (wpAny_mono h₂ (fun x s₃ h₃ => wpAny_bind (wpAny_standAt (wpAny_bind (wpAny_of_eq (hs x) (wpAny_bind (wpAny_holding (wpAny_mono h₃ (fun it2 s₄ h₄ => wpAny_bind (wpAny_runOwn ?_)) fun _ _ h' => h')))))) ) fun _ _ h' => h')) fun _ _ h' => h')
    exact h₄ _ fun s₅ h₅ => wpAny_pure ⟨rfl, h₅⟩
end
end Mine

/-! ### V5 -/
open PySem PySem.W PyProof.Rows PySem.Calls
set_option Elab.async false
set_option maxRecDepth 100000
set_option maxHeartbeats 4000000
set_option linter.unusedVariables false
namespace Mine
section
variable {w : World} {A : Around} {h : Heap} {env : Env} {pos px py : Pos} {x₁ x₂ : Str} {iter iter2 elt : Expr}
/-- [elt for x₁ in iter for x₂ in iter2] over texts -/
theorem ev_comp2 {scope : Scope} {cl : List (Str × Addr)} {xs : List (List Nat)} (f : List Nat → List (List Nat)) (g : List Nat → List Nat) (hh : A.handled = none) (hsrc : Src w A env h iter xs.length (SAt xs)) (hsz : xs.length ≤ sizeLine) (hsz2 : (xs.flatMap f).length ≤ sizeLine)
    (hin : ∀ C h' m y t, Ext h h' → h'.Ns C m → m x₁ = some (.str (S y) t) → y ∈ xs → EvH w A (compEnvC scope cl C env) h' iter2 fun v h'' => ∃ ax, v = .ref ax ∧ h'.get? ax = none ∧ IsStrL h'' ax (f y))
    (helt : ∀ C h' m y z t, Ext h h' → h'.Ns C m → y ∈ xs → z ∈ f y → m x₂ = some (.str (S z) t) → Ev w A (compEnvC scope cl C env) h' elt (IsS (g z)))
    (hclos : closureFor scope env = pure cl) (hcell : ∀ y ∈ scope.names, y.2 ≠ .cell) (hkind : scope.kind = .function)
    (hnames : ∀ y ∈ scope.names, y.2 = .local → scope.names.lookup y.1 = some .local) (hx₁ : scope.names.lookup x₁ = some .local) (hx₂ : scope.names.lookup x₂ = some .local)
    (hs : ∀ x, foldedSetIterable iter env x = pure x := by intro _; rfl) (hs2 : ∀ C x, foldedSetIterable iter2 (compEnvC scope cl C env) x = pure x := by intro _ _; rfl) :
    EvH w A env h (.ListComp elt [⟨.Name x₁ px, iter, [], 0⟩, ⟨.Name x₂ py, iter2, [], 0⟩] scope pos) fun r h' => ∃ D, r = .ref D ∧ h.get? D = none ∧ IsStrL h' D ((xs.flatMap f).map g) := by
  intro s Q E hI hQ
  rw [eval_ListComp]
  refine wpAny_comprehension_free (use := none) rfl hs hclos hkind hnames ?_
  refine hsrc s _ E hI fun I fp wr St' h₂ tk W hst hfp hwr e₂ => ?_
  refine wpAny_newObj_type (wpAny_newFunctionEnv hcell (by intro y hy; simp at hy) (fun h₁ hns₁ hsb₁ => ?_) hkind)
  have hns1 : h₁.Ns (h₂.push { cls := .type "list", data := .seq ([] : List Value).toArray }).objs.size (fun x => List.lookup x ([] : List (Str × Value)).reverse) := hns₁
  have hC : (h₂.push { cls := .type "list", data := .seq ([] : List Value).toArray }).objs.size = h₂.objs.size + 1 := by rw [Heap.size_push]
  obtain ⟨D, hDe⟩ : ∃ D, D = h₂.objs.size := ⟨_, rfl⟩
  obtain ⟨C, hCe⟩ : ∃ C, C = (h₂.push { cls := .type "list", data := .seq ([] : List Value).toArray }).objs.size := ⟨_, rfl⟩
  rw [← hCe] at hns1 hC
  have hC1 : C = D + 1 := by rw [hC, hDe]
  have hDC : D ≠ C := by rw [hC1]; exact Nat.ne_of_lt (Nat.lt_succ_self _)
  have hD2 : h₂.get? D = none := Heap.get?_none_of_le (by rw [hDe]; exact Nat.le_refl _)
  have hC2 : h₂.get? C = none := Heap.get?_none_of_le (by rw [hC1, hDe]; exact Nat.le_succ _)
  have lt2 : ∀ {b : Addr} {o : Obj}, h₂.get? b = some o → b ≠ D ∧ b ≠ C := fun e => ⟨(fun q => by rw [q, hD2] at e; cases e), (fun q => by rw [q, hC2] at e; cases e)⟩
  have old : Ext h₂ h₁ := fun b o e => by
    refine hsb₁.extBut b o ?_ (Heap.get?_push_of_some _ (Heap.get?_push_of_some _ e))
    show b ≠ (h₂.push { cls := .type "list", data := .seq ([] : List Value).toArray }).objs.size
    rw [← hCe]; exact (lt2 e).2
  have hacc : h₁.get? D = some (lstObj [] 0) := by
    refine hsb₁.extBut D _ ?_ (Heap.get?_push_of_some _ ?_)
    · show D ≠ (h₂.push { cls := .type "list", data := .seq ([] : List Value).toArray }).objs.size
      rw [← hCe]; exact hDC
    · rw [hDe]; exact Heap.get?_push_size _ rfl
  have hst₁ : St' 0 h₁ := W.frame _ _ _ hst fun b _ o e => old b o e
  have hfpl : ∀ b ∈ fp, b ≠ D ∧ b ≠ C := fun b hb => by
    have := hfp b hb
    rw [hC1]
    constructor
    · rw [hDe]; exact Nat.ne_of_lt this
    · rw [hDe]; exact Nat.ne_of_lt (Nat.lt_succ_of_lt this)
  have hDf : D ∉ fp := fun q => (hfpl _ q).1 rfl
  have hCf : C ∉ fp := fun q => (hfpl _ q).2 rfl
  have hCw : C ∉ wr := fun q => hCf (W.sub _ q)
  have hDw : D ∉ wr := fun q => hDf (W.sub _ q)
  have hkind' : ((compEnvC scope cl C env).scope.kind == .class || ((compEnvC scope cl C env).scope.kind == .module && (compEnvC scope cl C env).locals != (compEnvC scope cl C env).globals)) = false := by simp [compEnvC, relabel, hkind]
  -- what the outer heap keeps of h
  have extK : ∀ {q : Heap}, (∀ b o, b ≠ C → b ∉ wr → b ≠ D → h₂.get? b = some o → q.get? b = some o) → Ext h q := fun {q} kk b o e => by
    have e2 := e₂ _ _ (hI _ _ e)
    exact kk b o (lt2 e2).2 (fun z => by have := hwr b z; rw [hI _ _ e] at this; cases this) (lt2 e2).1 e2
  have loop : ∀ tk', codeAny (model P w) A (.compLoop (.ListComp elt [⟨.Name x₁ px, iter, [], 0⟩, ⟨.Name x₂ py, iter2, [], 0⟩] scope pos) 0 (.ref I) (.ref D) (compEnvC scope cl C env)) (compPost (model P w) A E none Q (.ref D) C) (St s h₁ tk') := by
    intro tk'
    refine loop_out (fun k s' => ∃ q tk m i vs mm, s' = St s q tk ∧ St' i q ∧ q.get? D = some (lstObj vs mm) ∧ q.Ns C m ∧ StrsAre vs ((((xs.take i).flatMap f).map g).map S) ∧ i ≤ xs.length ∧ k = xs.length + 1 - i ∧
      (∀ b o, b ≠ C → b ∉ wr → b ≠ D → h₂.get? b = some o → q.get? b = some o)) ?_ (xs.length + 1) ⟨h₁, tk', _, 0, [], 0, rfl, hst₁, hacc, hns1, .nil, Nat.zero_le _, rfl, fun b o _ _ _ e => old b o e⟩ (hs := hs2 C)
    rintro k s' E' ⟨q, tkq, m, i, vs, mm, rfl, hstq, hDq, hnq, hvs, hi, rfl, kq⟩
    by_cases hlt : i < xs.length
    · refine W.item i _ _ _ hlt hstq fun v q₁ k₁ hPv hst1 hk1 => ?_
      obtain ⟨y, t, hy, rfl⟩ := hPv
      have hym : y ∈ xs := List.mem_of_getElem? hy
      refine wpAny_assign_Name (wpAny_storeName_local (s := St s q₁ k₁) (env := compEnvC scope cl C env) (lookup_relabel_local hx₁) (hnq.at' fun o e => hk1 _ o hCw e) (fun q₂ hn2 hs2' => ?_) hkind')
      have hs2'' : Heap.SameBut C q₁ q₂ := hs2'
      have up2 : ∀ b o, b ≠ C → b ∉ wr → q.get? b = some o → q₂.get? b = some o := fun b o hbC hbw e => hs2''.extBut b o hbC (hk1 b o hbw e)
      have k2 : ∀ b o, b ≠ C → b ∉ wr → b ≠ D → h₂.get? b = some o → q₂.get? b = some o := fun b o a1 a2 a3 e => up2 b o a1 a2 (kq b o a1 a2 a3 e)
      have hD2q := up2 D _ hDC hDw hDq
      have hst2 : St' (i + 1) q₂ := W.frame _ _ _ hst1 fun b hb o e => hs2''.extBut b o (hfpl b hb).2 e
      refine CoH.use (s := s) (hin C q₂ _ y t (extK k2) hn2 (by simp) hym) (Ext.refl _) fun u q₃ k₃ hu e₃ => ?_
      obtain ⟨ax, rfl, hax, ws, hlx, hws⟩ := hu
      refine wpAny_pyIter_list (s := St s q₃ k₃) hlx ?_
      intro R₂ hR₂
      show codeAny _ _ _ _ (St s (q₃.push { cls := .type "list_iterator", data := .fields #[.ref ax, rawInt 0] }) k₃)
      have hI2 : q₃.get? q₃.objs.size = none := fresh_size (Ext.refl _)
      have hIs : (St s q₃ k₃).heap.objs.size = q₃.objs.size := rfl
      obtain ⟨I2, hI2e⟩ : ∃ I2, I2 = q₃.objs.size := ⟨_, rfl⟩
      rw [hIs, ← hI2e]
      rw [← hI2e] at hI2
      have ne3 : ∀ {b : Addr} {o : Obj}, q₃.get? b = some o → b ≠ I2 := fun e z => by rw [z, hI2] at e; cases e
      have hD3 := e₃ _ _ hD2q
      obtain ⟨oC, _, _, hoC, _⟩ := id hn2
      have hoC3 : q₃.get? C = some oC := e₃ _ _ hoC
      obtain ⟨oax, hoax, _⟩ := id hlx
      have hDI : D ≠ I2 := ne3 hD3
      have hCI : C ≠ I2 := ne3 hoC3
      have haxI : ax ≠ I2 := ne3 hoax
      have ne2 : ∀ {b : Addr} {o : Obj}, q₂.get? b = some o → b ≠ ax := fun e z => by rw [z, hax] at e; cases e
      have hDax : D ≠ ax := ne2 hD2q
      have hCax : C ≠ ax := ne2 hoC
      have W2 := Walks.list (prog := P) (w := w) (A := A) hh I2 ax haxI ws.toArray
      have hwl : ws.length = (f y).length := by rw [hws.len_eq]; simp
      have hws0 : ws.toArray.size = ws.length := List.size_toArray
      -- the inner loop
      have inner : ∀ tk'', codeAny (model P w) A (.compLoop (.ListComp elt [⟨.Name x₁ px, iter, [], 0⟩, ⟨.Name x₂ py, iter2, [], 0⟩] scope pos) 1 (.ref I2) (.ref D) (compEnvC scope cl C env)) R₂ (St s (q₃.push { cls := .type "list_iterator", data := .fields #[.ref ax, rawInt 0] }) tk'') := by
        intro tk''
        refine loop_in (fun k s' => ∃ q tk m j us um, s' = St s q tk ∧ (q.IsListIter I2 ax j ∧ q.IsList ax ws.toArray) ∧ q.get? D = some (lstObj us um) ∧ q.Ns C m ∧ StrsAre us ((((xs.take i).flatMap f ++ (f y).take j).map g).map S) ∧ j ≤ ws.length ∧ k = ws.length + 1 - j ∧
          (∀ b o, b ≠ C → b ≠ I2 → b ≠ D → q₃.get? b = some o → q.get? b = some o)) ?_ (ws.length + 1) ⟨_, tk'', _, 0, vs, mm, rfl, ⟨⟨_, by rw [hI2e]; exact Heap.get?_push_size _ rfl, rfl, rfl⟩, hlx.at fun o e => Heap.get?_push_of_some _ e⟩, Heap.get?_push_of_some _ hD3, (hn2.keeps e₃).push _, by simpa using hvs, Nat.zero_le _, rfl, fun b o _ _ _ e => Heap.get?_push_of_some _ e⟩
        rintro k s' E'' ⟨r, tkr, mr, j, us, um, rfl, hstr, hDr, hnr, hus, hj, rfl, kr⟩
        have krX : ∀ {r' : Heap}, (∀ b o, b ≠ C → b ≠ I2 → b ≠ D → q₃.get? b = some o → r'.get? b = some o) → (∀ b o, b ≠ C → b ∉ wr → b ≠ D → h₂.get? b = some o → r'.get? b = some o) := fun kk b o a1 a2 a3 e =>
          kk b o a1 (ne3 (e₃ _ _ (k2 b o a1 a2 a3 e))) a3 (e₃ _ _ (k2 b o a1 a2 a3 e))
        by_cases hjl : j < ws.length
        · refine W2.item j _ _ _ (by rw [hws0]; exact hjl) hstr fun v r₁ k₁' hPv2 hstr1 hkr1 => ?_
          have hwj : ws[j]? = some v := by simpa using hPv2
          obtain ⟨zS, tz, rfl, hz⟩ := hws.item j v hwj
          rw [List.getElem?_map] at hz
          obtain ⟨z, hzf, rfl⟩ : ∃ z, (f y)[j]? = some z ∧ S z = zS := by
            cases hq : (f y)[j]? with
            | none => rw [hq] at hz; cases hz
            | some z => rw [hq] at hz; exact ⟨z, rfl, Option.some.inj hz⟩
          refine wpAny_assign_Name (wpAny_storeName_local (s := St s r₁ k₁') (env := compEnvC scope cl C env) (lookup_relabel_local hx₂) (hnr.at' fun o e => hkr1 _ o (by simpa using hCI) e) (fun r₂ hn3 hs3 => ?_) hkind')
          have hs3' : Heap.SameBut C r₁ r₂ := hs3
          have kr2 : ∀ b o, b ≠ C → b ≠ I2 → b ≠ D → q₃.get? b = some o → r₂.get? b = some o := fun b o a1 a2 a3 e => hs3'.extBut b o a1 (hkr1 b o (by simpa using a2) (kr b o a1 a2 a3 e))
          have hDr2 : r₂.get? D = some (lstObj us um) := hs3'.extBut D _ hDC (hkr1 D _ (by simpa using hDI) hDr)
          have hst3 : r₂.IsListIter I2 ax (j + 1) ∧ r₂.IsList ax ws.toArray := W2.frame _ _ _ hstr1 fun b hb o e => hs3'.extBut b o (by
            simp only [List.mem_cons, List.not_mem_nil, or_false] at hb
            rcases hb with rfl | rfl
            · exact Ne.symm hCI
            · exact Ne.symm hCax) e
          refine Co.use (s := s) (helt C r₂ _ y z tz (extK (krX kr2)) hn3 hym (List.mem_of_getElem? hzf) (by simp)) (Ext.refl _) fun u r₃ k₃' hu e3' => ?_
          obtain ⟨tu, rfl⟩ := hu
          have hul : us.length ≤ sizeLine := by
            rw [hus.len_eq]
            simp only [List.length_map]
            refine Nat.le_trans ?_ hsz2
            have hsub : ((xs.take i).flatMap f ++ (f y).take j).length ≤ (xs.flatMap f).length := by
              have e1 : xs = xs.take i ++ y :: xs.drop (i + 1) := by
                have := List.getElem?_eq_some_iff.mp hy
                obtain ⟨hl, he⟩ := this
                rw [← he, ← List.drop_eq_getElem_cons hl, List.take_append_drop]
              conv => rhs; rw [e1]
              rw [List.flatMap_append, List.flatMap_cons, List.length_append, List.length_append, List.length_append, List.length_take]
              omega
            exact hsub
          refine append_at (s := St s r₃ k₃') (D := D) (its := us.toArray) (n := um) (e3' _ _ hDr2) (fun r₄ hs4 ho4 => ?_) (by simpa using hul)
          have hs4' : Heap.SameBut D r₃ r₄ := hs4
          refine ⟨ws.length + 1 - (j + 1), by omega, r₄, k₃', _, j + 1, us ++ [.str (S (g z)) tu], um + 1, rfl, ?_, by rw [ho4]; simp, (hn3.keeps e3').sameBut hs4' (Ne.symm hDC), ?_, hjl, rfl, fun b o a1 a2 a3 e => hs4'.extBut b o a3 (e3' _ _ (kr2 b o a1 a2 a3 e))⟩
          · exact W2.frame _ _ _ hst3 fun b hb o e => hs4'.extBut b o (by
              simp only [List.mem_cons, List.not_mem_nil, or_false] at hb
              rcases hb with rfl | rfl
              · exact Ne.symm hDI
              · exact Ne.symm hDax) (e3' _ _ e)
          · rw [List.take_add_one, hzf, Option.toList_some, ← List.append_assoc, List.map_append, List.map_append]
            exact kct_snoc hus
        · have hje : j = ws.length := by omega
          subst hje
          refine W2.done (St s r tkr) _ _ (by rw [hws0]; exact hstr) fun r₁ k₁' hkr1 => ?_
          refine hR₂ _ ⟨xs.length + 1 - (i + 1), by omega, r₁, k₁', mr, i + 1, us, um, rfl, ?_, hkr1 D _ (by simpa using hDI) hDr, hnr.at' fun o e => hkr1 _ o (by simpa using hCI) e, ?_, hlt, rfl, krX fun b o a1 a2 a3 e => hkr1 b o (by simpa using a2) (kr b o a1 a2 a3 e)⟩
          · refine W.frame _ _ _ hst2 fun b hb o e => ?_
            exact hkr1 b o (by simpa using ne3 (e₃ _ _ e)) (kr b o (hfpl b hb).2 (ne3 (e₃ _ _ e)) (hfpl b hb).1 (e₃ _ _ e))
          · rw [hwl, List.take_length] at hus
            rw [List.take_add_one, hy, Option.toList_some, List.flatMap_append, List.flatMap_singleton]
            exact hus
      refine start_in (inner k₃) fun E3 => W2.self 0 _ _ _ ⟨⟨_, by rw [hI2e]; exact Heap.get?_push_size _ rfl, rfl, rfl⟩, hlx.at fun o e => Heap.get?_push_of_some _ e⟩ (inner k₃)
    · have hie : i = xs.length := by omega
      subst hie
      refine W.done (St s q tkq) _ _ hstq fun q₁ k₁ hk1 => ?_
      refine ⟨m, hnq.at' fun o e => hk1 _ o hCw e, fun h' hs' => ?_⟩
      rw [List.take_length] at hvs
      have kk : ∀ b o, b ≠ C → b ∉ wr → b ≠ D → h₂.get? b = some o → h'.get? b = some o := fun b o a1 a2 a3 e => hs'.extBut b o a1 (hk1 b o a2 (kq b o a1 a2 a3 e))
      refine hQ (.ref D) h' k₁ ⟨D, rfl, ?_, vs, ⟨_, hs'.extBut D _ hDC (hk1 D _ hDw hDq), rfl, mm, rfl⟩, hvs⟩ ?_
      · cases hq : h.get? D with
        | none => rfl
        | some o => rw [e₂ _ _ (hI _ _ hq)] at hD2; cases hD2
      · intro b o e
        have e2 := e₂ _ _ e
        exact kk b o (lt2 e2).2 (fun z => by have := hwr b z; rw [e] at this; cases this) (lt2 e2).1 e2
  have lp := loop (tk + ([] : List (Str × Value)).length)
  subst hDe hCe
  exact codeAny_compStart_list lp (W.self 0 _ _ _ hst₁ lp)
end
end Mine

/-! ### V6 -/
open PySem PySem.W PyProof.Rows PySem.Calls
set_option Elab.async false
set_option maxRecDepth 100000
set_option maxHeartbeats 4000000
set_option linter.unusedVariables false
namespace Mine
section
variable {w : World} {A : Around} {h : Heap} {env : Env} {pos px : Pos} {x : Str} {iter elt : Expr}
/-- the environment of a comprehension whose target is captured -/
noncomputable abbrev cellEnv (scope : Scope) (cells : List (Str × Addr)) (C : Addr) (env : Env) : Env :=
  { scope := relabel scope env, locals := C, globals := env.globals, cells := cells, qual := env.qual, func := none, code := env.code, frame := env.frame, builtins := env.builtins }
/-- [elt for x in iter] over texts, x captured -/
theorem ev_compX {scope : Scope} {cl : List (Str × Addr)} {xs : List (List Nat)} (f : List Nat → List Nat) (hsrc : Src w A env h iter xs.length (SAt xs)) (hsz : xs.length ≤ sizeLine)
    (helt : ∀ C c h' m y t, Ext h h' → h'.Ns C m → h'.IsCell c (some (.str (S y) t)) → y ∈ xs → h.get? c = none → Ev w A (cellEnv scope ((x, c) :: cl) C env) h' elt (IsS (f y)))
    (hclos : closureFor scope env = pure cl) (hnm : ∃ z, scope.names = [(z, .local), (x, .cell), (Str.ofString "lines", .free)]) (hkind : scope.kind = .function)
    (hnames : ∀ y ∈ scope.names, y.2 = .local → scope.names.lookup y.1 = some .local) (hx : (relabel scope env).names.lookup x = some .cell) (hrk : (relabel scope env).kind = .function)
    (hs : ∀ x, foldedSetIterable iter env x = pure x := by intro _; rfl) :
    EvH w A env h (.ListComp elt [⟨.Name x px, iter, [], 0⟩] scope pos) fun r h' => ∃ D, r = .ref D ∧ h.get? D = none ∧ IsStrL h' D (xs.map f) := by
  intro s Q E hI hQ
  rw [eval_ListComp]
  refine wpAny_comprehension_free (use := none) rfl hs hclos hkind hnames ?_
  refine hsrc s _ E hI fun I fp wr St' h₂ tk W hst hfp hwr e₂ => ?_
  refine wpAny_newObj_type ?_
  -- the new frame with its cell
  unfold newFunctionEnv
  refine wpAny_bind (wpAny_alloc ?_)
  refine wpAny_bind (wpAny_layCells _ (fun name kind cells => by cases hkc : kind == NameKind.cell <;> simp [hkc]) _ _ _ _ ?_)
  obtain ⟨z, hnm⟩ := hnm
  rw [hnm]
  refine wpAny_bind ?_
  rw [List.forIn_nil]
  refine wpAny_pure (wpAny_pure ?_)
  obtain ⟨D, hDe⟩ : ∃ D, D = h₂.objs.size := ⟨_, rfl⟩
  obtain ⟨C, hCe⟩ : ∃ C, C = (h₂.push { cls := .type "list", data := .seq ([] : List Value).toArray }).objs.size := ⟨_, rfl⟩
  obtain ⟨c, hce⟩ : ∃ c, c = ((h₂.push { cls := .type "list", data := .seq ([] : List Value).toArray }).push { cls := .type "dict", data := .dict #[] }).objs.size := ⟨_, rfl⟩
  obtain ⟨h₁, h1e⟩ : ∃ q : Heap, q = ((h₂.push { cls := .type "list", data := .seq ([] : List Value).toArray }).push { cls := .type "dict", data := .dict #[] }).push { cls := .type "cell", data := .cell none } := ⟨_, rfl⟩
  have hC1 : C = D + 1 := by rw [hCe, Heap.size_push, hDe]
  have hc1 : c = D + 2 := by rw [hce, Heap.size_push, Heap.size_push, hDe]
  have hDC : D ≠ C := by rw [hC1]; exact Nat.ne_of_lt (Nat.lt_succ_self _)
  have hDc : D ≠ c := by rw [hc1]; exact Nat.ne_of_lt (Nat.lt_succ_of_lt (Nat.lt_succ_self _))
  have hCc : C ≠ c := by rw [hC1, hc1]; exact Nat.ne_of_lt (Nat.lt_succ_self _)
  have hD2 : h₂.get? D = none := Heap.get?_none_of_le (by rw [hDe]; exact Nat.le_refl _)
  have hC2 : h₂.get? C = none := Heap.get?_none_of_le (by rw [hC1, hDe]; exact Nat.le_succ _)
  have hc2 : h₂.get? c = none := Heap.get?_none_of_le (by rw [hc1, hDe]; exact Nat.le_succ_of_le (Nat.le_succ _))
  have lt2 : ∀ {b : Addr} {o : Obj}, h₂.get? b = some o → b ≠ D ∧ b ≠ C ∧ b ≠ c := fun e => ⟨(fun q => by rw [q, hD2] at e; cases e), (fun q => by rw [q, hC2] at e; cases e), (fun q => by rw [q, hc2] at e; cases e)⟩
  have old : Ext h₂ h₁ := fun b o e => by rw [h1e]; exact Heap.get?_push_of_some _ (Heap.get?_push_of_some _ (Heap.get?_push_of_some _ e))
  have hacc : h₁.get? D = some (lstObj [] 0) := by
    rw [h1e]
    exact Heap.get?_push_of_some _ (Heap.get?_push_of_some _ (by rw [hDe]; exact Heap.get?_push_size _ rfl))
  have hns1 : h₁.Ns C (fun _ => none) := by
    rw [h1e, hCe]
    exact (Heap.Ns.new _ _).push _
  have hcl1 : h₁.IsCell c none := by
    rw [h1e, hce]
    exact ⟨_, Heap.get?_push_size _ rfl, rfl⟩
  have hst₁ : St' 0 h₁ := W.frame _ _ _ hst fun b _ o e => old b o e
  have hfpl : ∀ b ∈ fp, b ≠ D ∧ b ≠ C ∧ b ≠ c := fun b hb => by
    have hb' : b < D := by rw [hDe]; exact hfp b hb
    rw [hC1, hc1]
    exact ⟨Nat.ne_of_lt hb', Nat.ne_of_lt (Nat.lt_succ_of_lt hb'), Nat.ne_of_lt (Nat.lt_succ_of_lt (Nat.lt_succ_of_lt hb'))⟩
  have hDw : D ∉ wr := fun q => (hfpl _ (W.sub _ q)).1 rfl
  have hCw : C ∉ wr := fun q => (hfpl _ (W.sub _ q)).2.1 rfl
  have hcw : c ∉ wr := fun q => (hfpl _ (W.sub _ q)).2.2 rfl
  have extK : ∀ {q : Heap}, (∀ b o, b ≠ c → b ∉ wr → b ≠ D → h₂.get? b = some o → q.get? b = some o) → Ext h q := fun {q} kk b o e => by
    have e2 := e₂ _ _ (hI _ _ e)
    exact kk b o (lt2 e2).2.2 (fun z => by have := hwr b z; rw [hI _ _ e] at this; cases this) (lt2 e2).1 e2
  have hc0 : h.get? c = none := by
    cases hq : h.get? c with
    | none => rfl
    | some o => rw [e₂ _ _ (hI _ _ hq)] at hc2; cases hc2
  have loop : ∀ tk', codeAny (model P w) A (.compLoop (.ListComp elt [⟨.Name x px, iter, [], 0⟩] scope pos) 0 (.ref I) (.ref D) (cellEnv scope ((x, c) :: cl) C env)) (compPost (model P w) A E none Q (.ref D) C) (St s h₁ tk') := by
    intro tk'
    refine codeAny_compLoop_list (fun k s' => ∃ q tk i vs mm o, s' = St s q tk ∧ St' i q ∧ q.get? D = some (lstObj vs mm) ∧ q.Ns C (fun _ => none) ∧ q.IsCell c o ∧ StrsAre vs (((xs.take i).map f).map S) ∧ i ≤ xs.length ∧ k = xs.length + 1 - i ∧
      (∀ b o, b ≠ c → b ∉ wr → b ≠ D → h₂.get? b = some o → q.get? b = some o)) ?_ (xs.length + 1) ⟨h₁, tk', 0, [], 0, none, rfl, hst₁, hacc, hns1, hcl1, .nil, Nat.zero_le _, rfl, fun b o _ _ _ e => old b o e⟩
    rintro k s' ⟨q, tkq, i, vs, mm, o, rfl, hstq, hDq, hnq, hcq, hvs, hi, rfl, kq⟩
    by_cases hlt : i < xs.length
    · refine W.item i _ _ _ hlt hstq fun v q₁ k₁ hPv hst1 hk1 => ?_
      obtain ⟨y, t, hy, rfl⟩ := hPv
      have hym : y ∈ xs := List.mem_of_getElem? hy
      have hcq1 : q₁.IsCell c o := let ⟨ob, a, b⟩ := hcq; ⟨ob, hk1 _ _ hcw a, b⟩
      refine wpAny_assign_Name (wpAny_storeName_cell (s := St s q₁ k₁) (env := cellEnv scope ((x, c) :: cl) C env) hrk hx (by simp) hcq1 fun q₂ hc2' hs2 => ?_)
      have hs2' : Heap.SameBut c q₁ q₂ := hs2
      have up2 : ∀ b o, b ≠ c → b ∉ wr → q.get? b = some o → q₂.get? b = some o := fun b o hbC hbw e => hs2'.extBut b o hbC (hk1 b o hbw e)
      have k2 : ∀ b o, b ≠ c → b ∉ wr → b ≠ D → h₂.get? b = some o → q₂.get? b = some o := fun b o a1 a2 a3 e => up2 b o a1 a2 (kq b o a1 a2 a3 e)
      have hD2q := up2 D _ hDc hDw hDq
      have hn2 : q₂.Ns C (fun _ => none) := hnq.at' fun o e => up2 C o hCc hCw e
      have hst2 : St' (i + 1) q₂ := W.frame _ _ _ hst1 fun b hb o e => hs2'.extBut b o (hfpl b hb).2.2 e
      refine Co.use (s := s) (helt C c q₂ _ y t (extK k2) hn2 hc2' hym hc0) (Ext.refl _) fun u q₃ k₃ hu e₃ => ?_
      obtain ⟨tu, rfl⟩ := hu
      have hul : vs.length ≤ sizeLine := by
        rw [hvs.len_eq]
        simp only [List.length_map, List.length_take]
        omega
      refine append_at (s := St s q₃ k₃) (D := D) (its := vs.toArray) (n := mm) (e₃ _ _ hD2q) (fun q₄ hs4 ho4 => ?_) (by simpa using hul)
      have hs4' : Heap.SameBut D q₃ q₄ := hs4
      refine ⟨xs.length + 1 - (i + 1), by omega, q₄, k₃, i + 1, vs ++ [.str (S (f y)) tu], mm + 1, some (.str (S y) t), rfl, ?_, by rw [ho4]; simp, (hn2.keeps e₃).sameBut hs4' (Ne.symm hDC), ?_, ?_, hlt, rfl, fun b o a1 a2 a3 e => hs4'.extBut b o a3 (e₃ _ _ (k2 b o a1 a2 a3 e))⟩
      · exact W.frame _ _ _ hst2 fun b hb o e => hs4'.extBut b o (hfpl b hb).1 (e₃ _ _ e)
      · exact (let ⟨ob, a, b⟩ := hc2'; ⟨ob, hs4'.extBut _ _ (Ne.symm hDc) (e₃ _ _ a), b⟩)
      · rw [List.take_add_one, hy, Option.toList_some, List.map_append, List.map_append]
        exact kct_snoc hvs
    · have hie : i = xs.length := by omega
      subst hie
      refine W.done (St s q tkq) _ _ hstq fun q₁ k₁ hk1 => ?_
      refine ⟨_, hnq.at' fun o e => hk1 _ o hCw e, fun h' hs' => ?_⟩
      rw [List.take_length] at hvs
      refine hQ (.ref D) h' k₁ ⟨D, rfl, ?_, vs, ⟨_, hs'.extBut D _ hDC (hk1 D _ hDw hDq), rfl, mm, rfl⟩, hvs⟩ ?_
      · cases hq : h.get? D with
        | none => rfl
        | some o => rw [e₂ _ _ (hI _ _ hq)] at hD2; cases hD2
      · intro b o e
        have e2 := e₂ _ _ e
        exact hs'.extBut b o (lt2 e2).2.1 (hk1 b o (fun z => by have := hwr b z; rw [e] at this; cases this) (kq b o (lt2 e2).2.2 (fun z => by have := hwr b z; rw [e] at this; cases this) (lt2 e2).1 e2))
  have lp := loop tk
  subst hDe hCe hce h1e
  exact codeAny_compStart_list lp (W.self 0 _ _ _ hst₁ lp)
end
end Mine

/-! ### V7 -/
open PySem PySem.W PyProof.Rows PySem.Calls
set_option Elab.async false
set_option maxRecDepth 100000
set_option maxHeartbeats 4000000
set_option linter.unusedVariables false
namespace Mine
section
variable {w : World} {A : Around} {h : Heap} {env : Env} {pos : Pos} {l r : Expr}
theorem strs_at {vs : List Value} {xs : List (List Nat)} (h : StrsAre vs (xs.map S)) {j : Nat} (hj : j < vs.length) (hx : j < xs.length) : ∃ t, vs[j] = .str (S xs[j]) t := by
  obtain ⟨y, t, e1, e2⟩ := h.item j vs[j] (List.getElem?_eq_getElem hj)
  rw [List.getElem?_map, List.getElem?_eq_getElem hx] at e2
  simp only [Option.map_some, Option.some.injEq] at e2
  exact ⟨t, by rw [e1, e2]⟩
/-- two lists of texts compared -/
theorem te_neL {xs ys : List (List Nat)} (hu : A.units < cLine) (hl : EvH w A env h l fun v h' => ∃ D, v = .ref D ∧ IsStrL h' D xs) (hr : EvH w A env h r fun v h' => ∃ D, v = .ref D ∧ IsStrL h' D ys) (hlen : xs.length = ys.length) (hm : behindInMarks .NotEq r = false := by rfl) :
    Te w A env h (.Compare l [.NotEq] [r] pos) (decide (xs ≠ ys)) := by
  intro s Q E hI hQ
  refine wpAny_isTrue_Compare1 (hl s _ E hI fun u h₁ k₁ hv₁ e₁ => ?_) hm
  obtain ⟨a, rfl, ha⟩ := hv₁
  refine hr _ _ E (hI.trans e₁) fun v h₂ k₂ hv₂ e₂ => ?_
  obtain ⟨b, rfl, hb⟩ := hv₂
  obtain ⟨vs, va, vx⟩ := ha.up e₂
  obtain ⟨us, ua, ux⟩ := hb
  have hvl : vs.length = xs.length := by rw [vx.len_eq]; simp
  have hul : us.length = ys.length := by rw [ux.len_eq]; simp
  refine SeqAt.RcNeAt.lists (s := St (St s h₁ k₁) h₂ k₂) (items := vs.toArray) (items2 := us.toArray) (e := fun j => decide (xs[j]? = ys[j]?)) va ua (by simp; omega) hu ?_ P w E _ ?_
  · intro j h1 h2
    have j1 : j < vs.length := by simpa using h1
    have j2 : j < us.length := by simpa using h2
    obtain ⟨t, e1⟩ := strs_at vx j1 (by omega)
    obtain ⟨t', e2⟩ := strs_at ux j2 (by omega)
    have hx : xs[j]? = some xs[j] := List.getElem?_eq_getElem (by omega)
    have hy : ys[j]? = some ys[j] := List.getElem?_eq_getElem (by omega)
    simp only [List.getElem_toArray]
    rw [e1, e2]
    have : decide (xs[j]? = ys[j]?) = (S xs[j] == S ys[j]) := by
      rw [hx, hy]
      by_cases e : xs[j] = ys[j] <;> simp [e]
    rw [this]
    exact SeqAt.EqAt.str_str _ _ _ _
  · refine wpAny_truthy_bool ?_
    have key : ((List.range vs.toArray.size).all fun j => decide (xs[j]? = ys[j]?)) = decide (xs = ys) := by
      rw [Bool.eq_iff_iff, List.all_eq_true, decide_eq_true_iff]
      constructor
      · intro hall
        apply List.ext_getElem?
        intro i
        by_cases hi : i < xs.length
        · exact of_decide_eq_true (hall i (by simp; omega))
        · rw [List.getElem?_eq_none (by omega), List.getElem?_eq_none (by omega)]
      · rintro rfl i _
        simp
    rw [key]
    exact hQ _ h₂ k₂ (by simp) (e₁.trans e₂)
end
end Mine

/-! ### V8 -/
open PySem PySem.W PyProof.Rows PySem.Calls
set_option Elab.async false
set_option maxRecDepth 100000
set_option maxHeartbeats 4000000
set_option linter.unusedVariables false
namespace Mine
/-! ## the law's plain side -/
noncomputable def wideP (ns : List Int) : Nat := 4 + (ns.sum.fmod 9).toNat
noncomputable def endsP (ns : List Int) : List Nat := if (ns.sum.fdiv 9).fmod 2 = 0 then [10] else [13, 10]
noncomputable def bodyP (ns : List Int) : List Nat := (drawnP ns).flatten
noncomputable def rowsP (wd : Nat) (body : List Nat) : List (List Nat) := (linesL body).flatMap fun l => rowsT wd (l.flatMap tr)
structure LawPlain (ns : List Int) : Prop where
  cut : ∃ (b1 b2 : List Nat) (xs : List (List Nat)), Txt.replace (S (bodyP ns)) (S [13, 10]) (S [10]) = S b1 ∧ Txt.replace (S b1) (S [13]) (S [10]) = S b2 ∧ Txt.split (S b2) (S [10]) = xs.map S ∧ xs.dropLast = linesL (bodyP ns) ∧ b1.length ≤ 1000 ∧ b2.length ≤ 1000 ∧ xs.length ≤ 1000
  last : (bodyP ns).getLast? = some 10 ∨ (bodyP ns).getLast? = some 13
  ok : ∀ c ∈ bodyP ns, Ok c
  len : (bodyP ns).length ≤ 100
  cnt : (drawnP ns).length ≤ 11
  partLast : ∀ p ∈ drawnP ns, p.getLast? = some 10 ∨ p.getLast? = some 13
  partOk : ∀ p ∈ drawnP ns, ∀ c ∈ p, Ok c
  partLen : ∀ p ∈ drawnP ns, p.length ≤ 100
  encLen : ∀ b wd e, b.length ≤ 100 → 4 ≤ wd → e.length ≤ 2 → (encL b wd e).length ≤ 5000
  trLen : ∀ b : List Nat, b.length ≤ 100 → (b.flatMap trE).length ≤ 1000 ∧ (b.flatMap tr).length ≤ 1000
  rowsLen : ∀ wd (b : List Nat), b.length ≤ 100 → 4 ≤ wd → (rowsT wd (b.flatMap tr)).length ≤ 1000
  rowsPLen : ∀ wd, 4 ≤ wd → (rowsP wd (bodyP ns)).length ≤ 5000 ∧ (∀ r ∈ rowsP wd (bodyP ns), r.length ≤ 5000) ∧ ((rowsP wd (bodyP ns)).map (·.length)).sum ≤ 50000
  decLen : ∀ b e, b.length ≤ 5000 → e.length ≤ 2 → (decL b e).length ≤ 100000
  rowLen : ∀ b e, b.length ≤ 5000 → e.length ≤ 2 → (decRow e (rstripL b)).length ≤ 100000
  linesLen : (linesL (bodyP ns)).length ≤ 200 ∧ ∀ l ∈ linesL (bodyP ns), l.length ≤ 100 ∧ ∀ c ∈ l, Ok c ∧ c ≠ 10 ∧ c ≠ 13
  encParts : ∀ wd e, 4 ≤ wd → (e = [10] ∨ e = [13, 10]) → foldT (fun so each => so ++ encL each wd e) [] (drawnP ns) = encL (bodyP ns) wd e
  encRows : ∀ wd e, 4 ≤ wd → encL (bodyP ns) wd e = ((rowsP wd (bodyP ns)).map (· ++ e)).flatten
  encLast : ∀ wd e, 4 ≤ wd → (e = [10] ∨ e = [13, 10]) → (encL (bodyP ns) wd e).getLast? = some 10 ∧ ∀ c ∈ encL (bodyP ns) wd e, Ok c
  decEnc : ∀ wd e m, 4 ≤ wd → (e = [10] ∨ e = [13, 10]) → decL (encL (bodyP ns) wd e) m = ((linesL (bodyP ns)).map (· ++ m)).flatten
  decParts : ∀ e, foldT (fun so each => so ++ decL each e) [] (drawnP ns) = decL (bodyP ns) e
theorem wideP_ge (ns : List Int) : 4 ≤ wideP ns ∧ wideP ns ≤ 12 := by
  have := Int.fmod_lt_of_pos ns.sum (b := 9) (by omega)
  have := Int.fmod_nonneg_of_pos ns.sum (b := 9) (by omega)
  unfold wideP
  omega
theorem endsP_or (ns : List Int) : endsP ns = [10] ∨ endsP ns = [13, 10] := by unfold endsP; split <;> simp
/-- the frame of law -/
noncomputable abbrev lawFr (script : Value) (taken drawn body written again : Option Value) : FrL :=
  [(Str.ofString "script", some script), (Str.ofString "taken", taken), (Str.ofString "drawn", drawn), (Str.ofString "body", body), (Str.ofString "written", written), (Str.ofString "again", again)]
section
variable {w : World} {A : Around} {s : Shared} {E : Value → Shared → Prop}
theorem law_entry {aL cL : Addr} {ax : Addr} {pm doc : Value} {Q : Value → Shared → Prop} (hroom : A.depth < recursionLimit) (hlim : s.heap.NoLimit)
    (hfn : s.heap.get? aL = some (fnObj (Str.ofString "law") (fArgs (stAt 28)) (fBody (stAt 28)) (fScope (stAt 28)) .none pm cL doc)) (hcd : s.heap.CodeRec (.ref cL) "law")
    (h : ∀ L h₁ tk A' E', h₁.Ns L (fr (lawFr (.ref ax) none none none none none)) → h₁.IsCell (L + 1) none → h₁.IsCell (L + 2) none → h₁.IsCell (L + 3) none → (∀ b ∈ [L, L + 1, L + 2, L + 3], s.heap.get? b = none) → Ext s.heap h₁ →
      A'.depth = A.depth + 1 → A'.handled = A.handled → A'.units = A.units + 3 →
      wpAny (model P w) A' (execs (fBody (stAt 28)) (lenv L aL cL)) (fun f s' => Q (match f with | .ret v => v | _ => .none) s') E' (St s h₁ tk)) :
    wpAny (model P w) A (call (.ref aL) [.ref ax]) Q E s := by
  refine wpAny_call ?_
  refine codeAny_call_cells (binds := [(Str.ofString "script", .ref ax)]) hroom hfn rfl hlim hcd rfl rfl rfl (kindsX rfl _) (fun s₁ x => ?_) rfl rfl rfl
  obtain ⟨h₁, tk, rfl, hx⟩ := x.done
  have hfr : s.heap.get? s.heap.objs.size = none := fresh_size (Ext.refl _)
  have hab := fun n c hc => x.above n c (mem_of_lookup hc)
  have big : ∀ k, s.heap.get? (s.heap.objs.size + k) = none := fun k => Heap.get?_none_of_le (Nat.le_add_right _ _)
  refine wpAny_mono (h s.heap.objs.size h₁ tk _ _ ?_ (x.cell "lines" _ rfl) (x.cell "ends_of" _ rfl) (x.cell "wide" _ rfl) ?_ hx rfl rfl rfl) (fun f s' hq => hq) (fun _ _ e => e)
  · rw [show lawFr (.ref ax) none none none none none = (Str.ofString "script", some (Value.ref ax)) :: [Str.ofString "taken", Str.ofString "drawn", Str.ofString "body", Str.ofString "written", Str.ofString "again"].map fun y => (y, none) from rfl, ← fr_one]
    exact x.toInCall.ns
  · intro b hb
    simp only [List.mem_cons, List.not_mem_nil, or_false] at hb
    rcases hb with rfl | rfl | rfl | rfl
    · exact hfr
    · exact big 1
    · exact big 2
    · exact big 3
end
end Mine

/-! ### V9 -/
open PySem PySem.W PyProof.Rows PySem.Calls
set_option Elab.async false
set_option maxRecDepth 100000
set_option maxHeartbeats 4000000
set_option linter.unusedVariables false
namespace Mine
noncomputable def lawSt (k : Nat) : Stmt := ((fBody (stAt 28))[k]?).getD (.Pass default)
theorem law_sts : fBody (stAt 28) = [lawSt 0, lawSt 1, lawSt 2, lawSt 3, lawSt 4, lawSt 5, lawSt 6, lawSt 7, lawSt 8, lawSt 9, lawSt 10, lawSt 11, lawSt 12, lawSt 13] := rfl
theorem evh_list {w : World} {A : Around} {env : Env} {h : Heap} {e : Expr} {a : Addr} {its : List Value} (hx : Ev w A env h e (IsV (.ref a))) (hl : h.IsList a its.toArray) : EvH w A env h e fun v h' => ∃ a its', v = .ref a ∧ h'.IsList a its'.toArray ∧ its' = its :=
  fun s Q E hI hQ => hx s Q E hI fun v q tk hv e => hQ v q tk ⟨a, its, hv, hl.at fun o z => e _ o (hI _ o z), rfl⟩ e
section
variable {w : World} {A : Around} {s : Shared} {E : Value → Shared → Prop} {mg mb : Str → Option Value} {hK hp : Heap} {PL L aL cL ax : Addr} {tk₀ : Nat} {Q : Flow → Shared → Prop}
/-- taken, drawn, wide, ends_of -/
theorem law_1 {ivs : List Value} {ns : List Int} (C : LC mg mb cL PL hK) (hd : A.depth + 100 < recursionLimit) (hh : A.handled = none) (hl : hK.IsList ax ivs.toArray) (hi : IntsAre ivs ns) (hlen : ns.length ≤ 63)
    (T : LS hK PL L (L + 1) (L + 2) (L + 3) (lawFr (.ref ax) none none none none none) none none none 0 hp)
    (k : ∀ hN X D te tw h' tk, Ext hK hN → IsStrL hN D (drawnP (ns.take 8)) → LS hN PL L (L + 1) (L + 2) (L + 3) (lawFr (.ref ax) (some (.ref X)) (some (.ref D)) none none none) none (some (.str (S (endsP (ns.take 8))) te)) (some (.int (wideP (ns.take 8)) tw)) 0 h' →
      wpAny (model P w) A (execs [lawSt 4, lawSt 5, lawSt 6, lawSt 7, lawSt 8, lawSt 9, lawSt 10, lawSt 11, lawSt 12, lawSt 13] (lenv L aL cL)) Q E (St s h' tk)) :
    wpAny (model P w) A (execs (fBody (stAt 28)) (lenv L aL cL)) Q E (St s hp tk₀) := by
  have hlim : sizeLine = 16777216 := sizeLine_eq
  have hvl : ivs.length = ns.length := by
    have : ∀ {vs : List Value} {ms : List Int}, IntsAre vs ms → vs.length = ms.length := by
      intro vs ms hi
      induction hi with
      | nil => rfl
      | cons _ _ _ ih => simp [ih]
    exact this hi
  rw [law_sts]
  -- taken = script[:8]
  refine wpAny_execs_cons ?_
  conv => arg 3; arg 1; whnf
  refine lx_assign T (V := fun v h' => ∃ X vs, v = .ref X ∧ hp.get? X = none ∧ h'.get? X = some (lstObj vs 0) ∧ IntsAre vs (ns.take 8)) (CoH.post (ev_sliceL (G := fun its => its = ivs) (i := none) (j := some 8) (evh_list (ev_local (v := .ref ax) T.ns rfl) (hl.at fun o z => T.ext _ o z)) pt_none (pt_some ev_int) ?_) ?_) rfl (fun v g₁ h₁ tk₁ hv e₁ T₁ kb₁ => ?_)
  · rintro its rfl
    rw [hvl, hlim]; omega
  · rintro v q ⟨X, its, rfl, hX, hXo, rfl⟩
    exact ⟨X, _, rfl, hX, hXo, slice_ints_uptoW hi (by decide)⟩
  obtain ⟨X, vs, rfl, hX0, hX1, hvs⟩ := hv
  have T1 : LS hK PL L (L + 1) (L + 2) (L + 3) (lawFr (.ref ax) (some (.ref X)) none none none none) none none none 0 h₁ := T₁
  have hXn := T.new hX0
  obtain ⟨hK1, eK1, T1', kn1⟩ := T1.rebase
  have hXL : X ∉ [L] := fun q => hXn (by simp only [List.mem_cons, List.not_mem_nil, or_false] at q ⊢; exact .inr (.inl q))
  have gX : hK1.get? X = some (lstObj vs 0) := kn1 _ _ hXn (kb₁ _ _ hXL hX1)
  have lX : hK1.IsList X vs.toArray := ⟨_, gX, rfl, 0, rfl⟩
  have C1 := C.keeps eK1
  have htl : (ns.take 8).length ≤ 8 := by rw [List.length_take]; omega
  -- drawn = _law_parts(taken)
  refine wpAny_execs_cons ?_
  conv => arg 3; arg 1; whnf
  obtain ⟨aP, haP, fP⟩ := C1.lib.parts
  refine lx_assign T1' (V := fun v h' => ∃ D, v = .ref D ∧ h₁.get? D = none ∧ IsStrL h' D (drawnP (ns.take 8))) (ev_fn1 (ev_global (C1.lib.lib.g.keeps T1'.ext) haP) (fP.keeps T1'.ext) (ev_local (v := .ref X) T1'.ns rfl) ?_) rfl (fun v g₂ h₂ tk₂ hv e₂ T₂ kb₂ => ?_)
  · rintro _ rfl
    exact parts_spec (C1.lib.lib.keeps T1'.ext) (fP.keeps T1'.ext) (by omega) hh (lX.at fun o z => T1'.ext _ o z) hvs htl
  obtain ⟨D, rfl, hD0, hD1⟩ := hv
  have T2 : LS hK1 PL L (L + 1) (L + 2) (L + 3) (lawFr (.ref ax) (some (.ref X)) (some (.ref D)) none none none) none none none 0 h₂ := T₂
  have hDn := T1'.new hD0
  obtain ⟨hK2, eK2, T2', kn2⟩ := T2.rebase
  have hDL : D ∉ [L] := fun q => hDn (by simp only [List.mem_cons, List.not_mem_nil, or_false] at q ⊢; exact .inr (.inl q))
  have lD : IsStrL hK2 D (drawnP (ns.take 8)) := by
    obtain ⟨us, ⟨o, ho, r⟩, hus⟩ := hD1
    exact ⟨us, ⟨o, kn2 _ _ hDn (kb₂ _ _ hDL ho), r⟩, hus⟩
  have lX2 : hK2.IsList X vs.toArray := lX.at fun o z => eK2 _ o z
  have C2 := C1.keeps eK2
  have hsum : ∀ {q : Heap} {p₁ p₂ p₃ : Pos}, LS hK2 PL L (L + 1) (L + 2) (L + 3) (lawFr (.ref ax) (some (.ref X)) (some (.ref D)) none none none) none none none 0 q → True := fun _ => trivial
  -- wide = 4 + sum(taken) % 9
  refine wpAny_execs_cons ?_
  conv => arg 3; arg 1; whnf
  have bsum : bootBuiltins "sum" = some (.builtin "sum") := by decide +kernel
  refine lx_cell (c := L + 3) T2' rfl T2'.c3 (V := fun v _ => IsI (wideP (ns.take 8) : Int) v) (Co.post (add_i ev_int (mod_i (ev_sumL hh (ev_bi (C2.lib.lib.keeps T2'.ext) (by decide) bsum) (ev_local (v := .ref X) T2'.ns rfl) (lX2.at fun o z => T2'.ext _ o z) hvs) ev_int (by decide))) ?_) (fun v g₃ h₃ tk₃ hv e₃ c₃ kb₃ => ?_)
  · rintro v ⟨t, rfl⟩
    have h9 := Int.fmod_nonneg_of_pos (ns.take 8).sum (b := 9) (by omega)
    exact ⟨t, by unfold wideP; congr 1; omega⟩
  obtain ⟨tw, rfl⟩ := hv
  have T3 := (T2'.up e₃).cell3 c₃ kb₃
  -- ends_of = ['\n', '\r\n'][sum(taken) // 9 % 2]
  refine wpAny_execs_cons ?_
  conv => arg 3; arg 1; whnf
  have f2 := Int.fmod_lt_of_pos ((ns.take 8).sum.fdiv 9) (b := 2) (by omega)
  have f0 := Int.fmod_nonneg_of_pos ((ns.take 8).sum.fdiv 9) (b := 2) (by omega)
  refine lx_cell (c := L + 2) T3 rfl T3.c2 (V := fun v _ => IsS (endsP (ns.take 8)) v) (ev_itemLH (G := fun its => ∃ t1 t2, its = [.str (S [10]) t1, .str (S [13, 10]) t2]) (k := ((ns.take 8).sum.fdiv 9).fmod 2) (CoH.post (ev_list2 (ev_str (a := [10])) (ev_str (a := [13, 10]))) ?_) (mod_i (div_i (ev_sumL hh (ev_bi (C2.lib.lib.keeps T3.ext) (by decide) bsum) (ev_local (v := .ref X) T3.ns rfl) (lX2.at fun o z => T3.ext _ o z) hvs) ev_int (by decide) (PyProof.noPylong_of_log2 (by decide))) ev_int (by decide)) f0 (by omega) ?_) (fun v g₄ h₄ tk₄ hv e₄ c₄ kb₄ => ?_)
  · rintro v q ⟨Y, u, z, rfl, ⟨t1, rfl⟩, ⟨t2, rfl⟩, _, hYo⟩
    exact ⟨Y, _, rfl, ⟨_, hYo, rfl, 0, rfl⟩, t1, t2, rfl⟩
  · rintro its ⟨t1, t2, rfl⟩
    rcases (by omega : ((ns.take 8).sum.fdiv 9).fmod 2 = 0 ∨ ((ns.take 8).sum.fdiv 9).fmod 2 = 1) with e | e
    · refine ⟨_, by rw [e]; rfl, ?_⟩
      unfold endsP
      rw [if_pos e]
      exact ⟨t1, rfl⟩
    · refine ⟨_, by rw [e]; rfl, ?_⟩
      unfold endsP
      rw [if_neg (by omega)]
      exact ⟨t2, rfl⟩
  obtain ⟨te, rfl⟩ := hv
  have T4 := (T3.up e₄).cell2 c₄ kb₄
  exact k hK2 X D te tw h₄ tk₄ (eK1.trans eK2) lD T4
end
end Mine

/-! ### V10 -/
open PySem PySem.W PyProof.Rows PySem.Calls
set_option Elab.async false
set_option maxRecDepth 100000
set_option maxHeartbeats 4000000
set_option linter.unusedVariables false
namespace Mine
theorem fold_app (x₀ : List Nat) (r : List (List Nat)) : foldT (fun a b => a ++ b) x₀ r = x₀ ++ r.flatten := by
  unfold foldT
  induction r generalizing x₀ with
  | nil => simp
  | cons y r ih => rw [List.foldl_cons, ih, List.flatten_cons, List.append_assoc]
theorem fold_pre {xs : List (List Nat)} {x₀ : List Nat} {i : Nat} (h0 : xs[0]? = some x₀) (hi : 1 ≤ i) : foldT (fun a b => a ++ b) x₀ ((xs.take i).drop 1) = (xs.take i).flatten := by
  rw [fold_app]
  cases xs with
  | nil => simp at h0
  | cons a r =>
    simp at h0
    subst h0
    obtain ⟨j, rfl⟩ : ∃ j, i = j + 1 := ⟨i - 1, by omega⟩
    simp
theorem flat_take_le (xs : List (List Nat)) (i : Nat) : (xs.take i).flatten.length ≤ xs.flatten.length := by
  have : xs.flatten = (xs.take i).flatten ++ (xs.drop i).flatten := by rw [← List.flatten_append, List.take_append_drop]
  rw [this, List.length_append]
  omega
theorem flat_item_le {xs : List (List Nat)} {x : List Nat} (h : x ∈ xs) : x.length ≤ xs.flatten.length := by
  obtain ⟨a, b, e⟩ := List.append_of_mem h
  rw [e]
  simp
  omega
theorem drawnP_ne (ns : List Int) : ∃ x₀, (drawnP ns)[0]? = some x₀ := by
  have : drawnP ns ≠ [] := by unfold drawnP; simp
  cases h : drawnP ns with
  | nil => exact absurd h this
  | cons a r => exact ⟨a, rfl⟩
section
variable {w : World} {A : Around} {s : Shared} {E : Value → Shared → Prop} {mg mb : Str → Option Value} {hK hp : Heap} {PL L aL cL ax : Addr} {tk₀ : Nat} {Q : Flow → Shared → Prop}
theorem lx_cellT {l : FrL} {vl ve vw : Option Value} {n : Nat} {cl ce cw : Addr} {pos px : Pos} {x : Str} {e : Expr} {env : Env} {V : Value → Heap → Prop} {c : Addr} {o : Option Value} (T : LS hK PL L cl ce cw l vl ve vw n hp) (hc : env.cells.lookup x = some c) (hv : hp.IsCell c o)
    (he : ∀ (Q : Value → Shared → Prop) (E : Value → Shared → Prop), (∀ v h' tk, V v h' → Ext hp h' → Q v (St s h' tk)) → wpAny (model P w) A (eval e env) Q E (St s hp tk₀))
    (k : ∀ v h₁ h' tk, V v h₁ → Ext hp h₁ → h'.IsCell c (some v) → KB [c] h₁ h' → Q .next (St s h' tk))
    (hk : env.scope.kind = .function := by rfl) (hl : env.kindOf x = some .cell := by rfl) (hsw : swapsWith e (some (.Name x px)) pos.line env = pure false := by rfl) :
    wpAny (model P w) A (exec (.Assign [.Name x px] e pos) env) Q E (St s hp tk₀) := by
  refine wpAny_Assign_Name (he _ _ fun v h₁ k₁ hv' e₁ => ?_) hsw
  refine wpAny_storeName_cell (s := St s h₁ k₁) hk hl hc (let ⟨o, a, b⟩ := hv; ⟨o, e₁ _ _ a, b⟩) fun h₂ hn hs => ?_
  exact k v h₁ h₂ k₁ hv' e₁ hn (KB.of_same (by simp) hs)
theorem ct_localS {h : Heap} {env : Env} {l : FrL} {a : List Nat} {t : Tok} {x : Str} {pos : Pos} (hn : h.Ns env.locals (fr l)) (hv : fr l x = some (.str ⟨a.toArray⟩ t))
    (hk : env.scope.kind = .function := by rfl) (hl : env.kindOf x = some .local := by rfl) (hd : (x == ("__debug__" : Str)) = false := by rfl) : CoT w A (eval (.Name x pos) env) h (IsS a) :=
  fun s Q E hI ht hQ => ct_local hn hv hk hl hd s Q E hI ht fun v h' tk hv e t' => hQ v h' tk ⟨t, hv⟩ e t'
/-- body, lines, written -/
theorem law_2 {ns : List Int} {X D : Addr} {te tw : Tok} (Pl : LawPlain ns) (C : LC mg mb cL PL hK) (hd : A.depth + 100 < recursionLimit) (hh : A.handled = none) (lD : IsStrL hK D (drawnP ns))
    (T : LS hK PL L (L + 1) (L + 2) (L + 3) (lawFr (.ref ax) (some (.ref X)) (some (.ref D)) none none none) none (some (.str (S (endsP ns)) te)) (some (.int (wideP ns) tw)) 0 hp)
    (k : ∀ hN Y tb tt n h' tk, Ext hK hN → IsStrL hN Y (linesL (bodyP ns)) → n ≤ 153 → LS hN PL L (L + 1) (L + 2) (L + 3) (lawFr (.ref ax) (some (.ref X)) (some (.ref D)) (some (.str (S (bodyP ns)) tb)) (some (.str (S (encL (bodyP ns) (wideP ns) (endsP ns))) tt)) none) (some (.ref Y)) (some (.str (S (endsP ns)) te)) (some (.int (wideP ns) tw)) n h' →
      wpAny (model P w) A (execs [lawSt 7, lawSt 8, lawSt 9, lawSt 10, lawSt 11, lawSt 12, lawSt 13] (lenv L aL cL)) Q E (St s h' tk)) :
    wpAny (model P w) A (execs [lawSt 4, lawSt 5, lawSt 6, lawSt 7, lawSt 8, lawSt 9, lawSt 10, lawSt 11, lawSt 12, lawSt 13] (lenv L aL cL)) Q E (St s hp tk₀) := by
  have hlim : sizeLine = 16777216 := sizeLine_eq
  obtain ⟨x₀, hx0⟩ := drawnP_ne ns
  have hbl := Pl.len
  -- body = reduce(lambda so, each: so + each, drawn)
  refine wpAny_execs_cons ?_
  conv => arg 3; arg 1; whnf
  refine ix_assign (n' := 153) T (red2 (g := fun a b => a ++ b) (x₀ := x₀) (xs := drawnP ns) C lD rfl (by omega) hh hx0 (Nat.zero_le _) rfl rfl ?_ rfl rfl) rfl (fun v h₁ tk₁ hv ht₁ T₁ => ?_)
  · intro f c' ctv pm h' A' T' hf hrec hd' hh' i x t u hx hi1
    refine lam_call hf hrec (C.lib.lib.lim.keeps T'.ext) (by omega) (binds := [(Str.ofString "so", _), (Str.ofString "each", _)]) rfl (fun L' h₁ A'' hns e1 _ _ => ?_) (locs rfl) (by decide) rfl rfl rfl
    rw [fr_binds2 (r := []) rfl] at hns
    refine add_str (ev_localS hns rfl) (ev_localS hns rfl) ?_
    rw [fold_pre hx0 hi1, hlim]
    have h1 := flat_take_le (drawnP ns) i
    have h2 := flat_item_le (List.mem_of_getElem? hx)
    have h3 : (drawnP ns).flatten.length ≤ 100 := hbl
    omega
  have hb : foldT (fun a b => a ++ b) x₀ ((drawnP ns).drop 1) = bodyP ns := by
    rw [fold_app]
    unfold bodyP
    cases hq : drawnP ns with
    | nil => rw [hq] at hx0; simp at hx0
    | cons a r => rw [hq] at hx0; simp at hx0; subst hx0; simp
  rw [hb] at hv
  obtain ⟨tb, rfl⟩ := hv
  have T1 : LS hK PL L (L + 1) (L + 2) (L + 3) (lawFr (.ref ax) (some (.ref X)) (some (.ref D)) (some (.str (S (bodyP ns)) tb)) none none) none (some (.str (S (endsP ns)) te)) (some (.int (wideP ns) tw)) 153 h₁ := T₁
  -- lines = body.replace('\r\n', '\n').replace('\r', '\n').split('\n')[:-1]
  refine wpAny_execs_cons ?_
  conv => arg 3; arg 1; whnf
  obtain ⟨b1, b2, xs, r1, r2, sp, hdl, l1, l2, l3⟩ := Pl.cut
  refine lx_cellT (c := L + 1) T1 rfl T1.c1 (V := fun v h' => ∃ Y, v = .ref Y ∧ h₁.get? Y = none ∧ IsStrL h' Y xs.dropLast)
    (fun Q E hQ => ct_split (h := h₁) (a := b2) (y := [10]) (xs := xs) (by rfl) (by simp) (ct_repl (a := b1) (y := [13]) (z := [10]) (r := b2) (by rfl) (by rfl) (ct_repl (a := bodyP ns) (y := [13, 10]) (z := [10]) (r := b1) (by rfl) (by rfl) (ct_localS T1.ns (by rfl)) (by decide) r1 (by simp; omega)) (by decide) r2 (by simp; omega)) sp (by omega) (by omega) (hI := Ext.refl _) (htk := ht₁) (hQ := hQ)) (fun v g₂ h₂ tk₂ hv e₂ c₂ kb₂ => ?_)
  obtain ⟨Y, rfl, hY0, hY1⟩ := hv
  have T2 := (T1.up e₂).cell1 c₂ kb₂
  have hYn := T1.new hY0
  have hYc : Y ∉ [L + 1] := fun q => hYn (by simp only [List.mem_cons, List.not_mem_nil, or_false] at q ⊢; exact .inr (.inr (.inl q)))
  obtain ⟨hN, eN, T2', kn⟩ := T2.rebase
  have lY : IsStrL hN Y (linesL (bodyP ns)) := by
    rw [← hdl]
    obtain ⟨us, ⟨o, ho, r⟩, hus⟩ := hY1
    exact ⟨us, ⟨o, kn _ _ hYn (kb₂ _ _ hYc ho), r⟩, hus⟩
  have C2 := C.keeps eN
  -- written = body_encode(body, wide, ends_of)
  refine wpAny_execs_cons ?_
  conv => arg 3; arg 1; whnf
  obtain ⟨aE, dE, t1, t2, haE, fE, tE⟩ := C2.lib.enc
  obtain ⟨hw1, hw2⟩ := wideP_ge ns
  have hel : (endsP ns).length ≤ 2 ∧ 1 ≤ (endsP ns).length := by rcases endsP_or ns with e | e <;> rw [e] <;> decide
  refine lx_assign T2' (V := fun v _ => IsS (encL (bodyP ns) (wideP ns) (endsP ns)) v) (ev_fn3 (ev_global (C2.lib.lib.g.keeps T2'.ext) haE) (fE.keeps T2'.ext) (ev_localS (a := bodyP ns) T2'.ns rfl) (ev_cellI (a := (wideP ns : Int)) (c := L + 3) rfl T2'.c3) (ev_cellS (a := endsP ns) (c := L + 2) rfl T2'.c2) ?_) rfl (fun v g₃ h₃ tk₃ hv e₃ T₃ kb₃ => ?_)
  · rintro _ _ _ ⟨ta, rfl⟩ ⟨tb', rfl⟩ ⟨tc, rfl⟩
    have hE := (Pl.trLen _ hbl).1
    have hE2 := Pl.encLen (bodyP ns) (wideP ns) (endsP ns) hbl hw1 hel.1
    exact encode_spec (C2.lib.lib.keeps T2'.ext) (fE.keeps T2'.ext) (tE.keeps T2'.ext) (by omega) hh hw1 (by omega) Pl.last Pl.ok (by omega) (by omega) (by omega) hel.2
  obtain ⟨tt, rfl⟩ := hv
  exact k hN Y tb tt 153 h₃ tk₃ eN lY (Nat.le_refl _) T₃
end
end Mine

/-! ### V11 -/
open PySem PySem.W PyProof.Rows PySem.Calls
set_option Elab.async false
set_option maxRecDepth 100000
set_option maxHeartbeats 4000000
set_option linter.unusedVariables false
namespace Mine
theorem fold_map (F : List Nat → List Nat) (acc : List Nat) (xs : List (List Nat)) : foldT (fun so each => so ++ F each) acc xs = acc ++ (xs.map F).flatten := by
  unfold foldT
  induction xs generalizing acc with
  | nil => simp
  | cons y r ih => rw [List.foldl_cons, ih, List.map_cons, List.flatten_cons, List.append_assoc]
theorem fold_map_len {F : List Nat → List Nat} {xs : List (List Nat)} {M : Nat} (h : ∀ x ∈ xs, (F x).length ≤ M) (i : Nat) : (foldT (fun so each => so ++ F each) [] (xs.take i)).length ≤ xs.length * M := by
  rw [fold_map, List.nil_append]
  have : ∀ ys : List (List Nat), (∀ x ∈ ys, (F x).length ≤ M) → (ys.map F).flatten.length ≤ ys.length * M := by
    intro ys
    induction ys with
    | nil => intro _; simp
    | cons y r ih =>
      intro hy
      have h1 := hy y (by simp)
      have h2 := ih fun x hx => hy x (by simp [hx])
      rw [List.map_cons, List.flatten_cons, List.length_append, List.length_cons, Nat.succ_mul]
      omega
  have h1 := this (xs.take i) fun x hx => h x (List.mem_of_mem_take hx)
  have h2 : (xs.take i).length ≤ xs.length := by rw [List.length_take]; omega
  exact Nat.le_trans h1 (Nat.mul_le_mul_right _ h2)
section
variable {w : World} {A : Around} {s : Shared} {E : Value → Shared → Prop} {mg mb : Str → Option Value} {hK hp : Heap} {PL L aL cL ax : Addr} {tk₀ : Nat} {Q : Flow → Shared → Prop}
/-- the first test -/
theorem law_3 {ns : List Int} {X D Y : Addr} {te tw tb tt : Tok} {n : Nat} {again : Option Value} (Pl : LawPlain ns) (C : LC mg mb cL PL hK) (hd : A.depth + 200 < recursionLimit) (hh : A.handled = none) (lD : IsStrL hK D (drawnP ns)) (hn : n ≤ 153)
    (T : LS hK PL L (L + 1) (L + 2) (L + 3) (lawFr (.ref ax) (some (.ref X)) (some (.ref D)) (some (.str (S (bodyP ns)) tb)) (some (.str (S (encL (bodyP ns) (wideP ns) (endsP ns))) tt)) none) (some (.ref Y)) (some (.str (S (endsP ns)) te)) (some (.int (wideP ns) tw)) n hp)
    (k : ∀ h' tk, LS hK PL L (L + 1) (L + 2) (L + 3) (lawFr (.ref ax) (some (.ref X)) (some (.ref D)) (some (.str (S (bodyP ns)) tb)) (some (.str (S (encL (bodyP ns) (wideP ns) (endsP ns))) tt)) none) (some (.ref Y)) (some (.str (S (endsP ns)) te)) (some (.int (wideP ns) tw)) 156 h' →
      wpAny (model P w) A (execs [lawSt 8, lawSt 9, lawSt 10, lawSt 11, lawSt 12, lawSt 13] (lenv L aL cL)) Q E (St s h' tk)) :
    wpAny (model P w) A (execs [lawSt 7, lawSt 8, lawSt 9, lawSt 10, lawSt 11, lawSt 12, lawSt 13] (lenv L aL cL)) Q E (St s hp tk₀) := by
  have hlim : sizeLine = 16777216 := sizeLine_eq
  obtain ⟨hw1, hw2⟩ := wideP_ge ns
  have hel : (endsP ns).length ≤ 2 ∧ 1 ≤ (endsP ns).length := by rcases endsP_or ns with e | e <;> rw [e] <;> decide
  have hcnt := Pl.cnt
  have hbl := Pl.len
  have jD : joinL [] (drawnP ns) = bodyP ns := joinL_nil _
  have sumD : ((drawnP ns).map (·.length)).sum = (bodyP ns).length := by unfold bodyP; rw [List.length_flatten]
  refine wpAny_execs_cons ?_
  conv => arg 3; arg 1; whnf
  refine ix_ifF (I := LS hK PL L (L + 1) (L + 2) (L + 3) (lawFr (.ref ax) (some (.ref X)) (some (.ref D)) (some (.str (S (bodyP ns)) tb)) (some (.str (S (encL (bodyP ns) (wideP ns) (endsP ns))) tt)) none) (some (.ref Y)) (some (.str (S (endsP ns)) te)) (some (.int (wideP ns) tw)) n)
    (I' := LS hK PL L (L + 1) (L + 2) (L + 3) (lawFr (.ref ax) (some (.ref X)) (some (.ref D)) (some (.str (S (bodyP ns)) tb)) (some (.str (S (encL (bodyP ns) (wideP ns) (endsP ns))) tt)) none) (some (.ref Y)) (some (.str (S (endsP ns)) te)) (some (.int (wideP ns) tw)) 156)
    (inv_or (inv_ne (a := bodyP ns) (b := bodyP ns) (InvCo.of (fun q T' => ev_localS (a := bodyP ns) T'.ns rfl) (fun _ _ T' e => T'.up e)) (InvCo.of (fun q T' => ev_meth1 PySem.F.slot_str_join PySem.F.type_str_join (ev_str (a := [])) (ev_local (v := .ref D) T'.ns rfl) ?_) (fun _ _ T' e => T'.up e)))
      (inv_ne (a := encL (bodyP ns) (wideP ns) (endsP ns)) (b := encL (bodyP ns) (wideP ns) (endsP ns)) (InvCo.of (fun q T' => ev_localS T'.ns rfl) (fun _ _ T' e => T'.up e)) ?_) (by simp)) (by simp) T (fun h₁ tk₁ T₁ => wpAny_execs_nil (k h₁ tk₁ T₁))
  · rintro t _ rfl
    refine Co.post (co_join (sep := []) (lD.up T'.ext) ?_) ?_
    · rw [sumD]; simp; omega
    · rw [jD]; exact fun v hv => hv
  · rw [← Pl.encParts (wideP ns) (endsP ns) hw1 (endsP_or ns)]
    refine red3 (g := fun so each => so ++ encL each (wideP ns) (endsP ns)) rfl C lD rfl (by omega) hh (by show n ≤ 155; omega) rfl rfl ?_ rfl rfl
    intro f c' ctv pm h' A' T' hf hrec hd' hh' i x t u hx
    have hxm := List.mem_of_getElem? hx
    refine lam_call hf hrec (C.lib.lib.lim.keeps T'.ext) (by omega) (binds := [(Str.ofString "so", _), (Str.ofString "each", _)]) rfl (fun L' h₁ A'' hns e1 hd1 hh1 => ?_) (locs rfl) (by decide) rfl rfl rfl
    rw [fr_binds2 (r := []) rfl] at hns
    have eT := T'.ext.trans e1
    obtain ⟨aE, dE, t1, t2, haE, fE, tE⟩ := C.lib.enc
    have hxl := Pl.partLen x hxm
    have hE := (Pl.trLen _ hxl).1
    have hE2 := Pl.encLen x (wideP ns) (endsP ns) hxl hw1 hel.1
    have hfl := fold_map_len (F := fun each => encL each (wideP ns) (endsP ns)) (xs := drawnP ns) (M := 5000) (fun y hy => Pl.encLen y (wideP ns) (endsP ns) (Pl.partLen y hy) hw1 hel.1) i
    refine add_str (ev_localS hns rfl) (ev_fn3 (ev_global (C.lib.lib.g.keeps eT) haE) (fE.keeps eT) (ev_localS (a := x) hns rfl) (ev_freeI (a := (wideP ns : Int)) (c := L + 3) rfl (IsCell.up T'.c3 e1)) (ev_freeS (a := endsP ns) (c := L + 2) rfl (IsCell.up T'.c2 e1)) ?_) (by rw [hlim]; omega)
    rintro _ _ _ ⟨ta, rfl⟩ ⟨tb', rfl⟩ ⟨tc, rfl⟩
    exact encode_spec (C.lib.lib.keeps eT) (fE.keeps eT) (tE.keeps eT) (by omega) (by rw [hh1]; exact hh') hw1 (by omega) (Pl.partLast x hxm) (Pl.partOk x hxm) (by omega) (by omega) (by omega) hel.2
end
end Mine

/-! ### V12 -/
open PySem PySem.W PyProof.Rows PySem.Calls
set_option Elab.async false
set_option maxRecDepth 100000
set_option maxHeartbeats 4000000
set_option linter.unusedVariables false
namespace Mine
section
variable {w : World} {A : Around} {s : Shared} {E : Value → Shared → Prop} {mg mb : Str → Option Value} {hK hp : Heap} {PL L aL cL ax : Addr} {tk₀ : Nat} {Q : Flow → Shared → Prop}
theorem src_lines {xs : List (List Nat)} {env : Env} {iter : Expr} {Y : Addr} {h : Heap} (hh : A.handled = none) (hx : Ev w A env h iter (IsV (.ref Y))) (hl : IsStrL h Y xs) : Src w A env h iter xs.length (SAt xs) :=
  src_strs hh fun s Q E hI hQ => hx s Q E hI fun v q tk hv e => hQ v q tk ⟨Y, hv, hl.up (hI.trans e)⟩ e
/-- the second and the third test -/
theorem law_4 {ns : List Int} {X D Y : Addr} {te tw tb tt : Tok} {n : Nat} (Pl : LawPlain ns) (C : LC mg mb cL PL hK) (hd : A.depth + 200 < recursionLimit) (hh : A.handled = none) (lY : IsStrL hK Y (linesL (bodyP ns)))
    (T : LS hK PL L (L + 1) (L + 2) (L + 3) (lawFr (.ref ax) (some (.ref X)) (some (.ref D)) (some (.str (S (bodyP ns)) tb)) (some (.str (S (encL (bodyP ns) (wideP ns) (endsP ns))) tt)) none) (some (.ref Y)) (some (.str (S (endsP ns)) te)) (some (.int (wideP ns) tw)) n hp)
    (k : ∀ h' tk, LS hK PL L (L + 1) (L + 2) (L + 3) (lawFr (.ref ax) (some (.ref X)) (some (.ref D)) (some (.str (S (bodyP ns)) tb)) (some (.str (S (encL (bodyP ns) (wideP ns) (endsP ns))) tt)) none) (some (.ref Y)) (some (.str (S (endsP ns)) te)) (some (.int (wideP ns) tw)) n h' →
      wpAny (model P w) A (execs [lawSt 10, lawSt 11, lawSt 12, lawSt 13] (lenv L aL cL)) Q E (St s h' tk)) :
    wpAny (model P w) A (execs [lawSt 8, lawSt 9, lawSt 10, lawSt 11, lawSt 12, lawSt 13] (lenv L aL cL)) Q E (St s hp tk₀) := by
  have hlim : sizeLine = 16777216 := sizeLine_eq
  obtain ⟨hw1, hw2⟩ := wideP_ge ns
  have hel : (endsP ns).length ≤ 2 ∧ 1 ≤ (endsP ns).length := by rcases endsP_or ns with e | e <;> rw [e] <;> decide
  obtain ⟨hll, hlm⟩ := Pl.linesLen
  obtain ⟨aR, haR, fR⟩ := C.lib.rows
  have hbl := Pl.len
  have key : ∀ (wd : Nat) (e : List Nat), ((rowsP wd (bodyP ns)).map (· ++ e)).length = (rowsP wd (bodyP ns)).length ∧ (((rowsP wd (bodyP ns)).map (· ++ e)).map (·.length)).sum = ((rowsP wd (bodyP ns)).map (·.length)).sum + (rowsP wd (bodyP ns)).length * e.length := by
    intro wd e
    refine ⟨by simp, ?_⟩
    generalize rowsP wd (bodyP ns) = rs
    induction rs with
    | nil => simp
    | cons r rs ih =>
      simp only [List.map_cons, List.sum_cons, List.length_cons, List.length_append] at ih ⊢
      rw [ih, Nat.succ_mul]
      omega
  -- written != ''.join([piece + ends_of for line in lines for piece in _law_rows(line, wide)])
  refine wpAny_execs_cons ?_
  conv => arg 3; arg 1; whnf
  refine ex_ifF (te_neS (a := encL (bodyP ns) (wideP ns) (endsP ns)) (b := encL (bodyP ns) (wideP ns) (endsP ns)) (ev_localS T.ns rfl) (ev_meth1H PySem.F.slot_str_join PySem.F.type_str_join (ev_str (a := [])) (ev_comp2 (xs := linesL (bodyP ns)) (fun y => rowsT (wideP ns) (y.flatMap tr)) (fun z => z ++ endsP ns) hh (src_lines hh (ev_cell (c := L + 1) rfl T.c1) (lY.up T.ext)) (by omega) ?_ ?_ ?_ rfl (by decide) rfl (by decide) rfl rfl) ?_)) (by simp) (fun h₁ tk₁ e₁ => wpAny_execs_nil ?_)
  · have := (Pl.rowsPLen (wideP ns) hw1).1
    unfold rowsP at this
    omega
  · intro C' h' m y t e hn hm hy
    obtain ⟨hy1, hy2⟩ := hlm y hy
    have eK := T.ext.trans e
    refine ev_fn2 (ev_global (C.lib.lib.g.keeps eK) haR) (fR.keeps eK) (ev_localMS (a := y) (m := m) hn hm) (ev_cellI (a := (wideP ns : Int)) (c := L + 3) rfl (IsCell.up T.c3 e)) ?_
    · rintro _ _ ⟨ta, rfl⟩ ⟨tb', rfl⟩
      have h1 := (Pl.trLen y hy1).2
      have h2 := Pl.rowsLen (wideP ns) y hy1 hw1
      exact rows_spec (C.lib.lib.keeps eK) (fR.keeps eK) (by omega) hh hw1 (by omega) (fun c hc => by have := (hy2 c hc).1.lt; omega) (by omega) (by omega) (by omega)
  · intro C' h' m y z t e hn hy hz hm
    have hzr : z ∈ rowsP (wideP ns) (bodyP ns) := List.mem_flatMap.mpr ⟨y, hy, hz⟩
    have := (Pl.rowsPLen (wideP ns) hw1).2.1 z hzr
    exact add_str (ev_localMS (a := z) (m := m) hn hm) (ev_cellS (a := endsP ns) (c := L + 2) rfl (IsCell.up T.c2 e)) (by omega)
  · rintro t v q ⟨Z, rfl, hZ, hl⟩ e
    refine Co.post (co_join (sep := []) hl ?_) ?_
    · have h1 := Pl.rowsPLen (wideP ns) hw1
      have h2 := key (wideP ns) (endsP ns)
      show ((((rowsP (wideP ns) (bodyP ns)).map (· ++ endsP ns)).map (·.length)).sum + _) ≤ _
      rw [h2.2]
      have h3 : (rowsP (wideP ns) (bodyP ns)).length * (endsP ns).length ≤ 5000 * 2 := Nat.mul_le_mul h1.1 hel.1
      have h4 : ∀ n : Nat, n * ([] : List Nat).length = 0 := fun n => rfl
      rw [h4]
      omega
    · rw [joinL_nil, Pl.encRows (wideP ns) (endsP ns) hw1]
      exact fun v hv => hv
  have T1 := T.up e₁
  -- body_encode(body) != ''.join([piece + '\n' for line in lines for piece in _law_rows(line, 76)])
  refine wpAny_execs_cons ?_
  conv => arg 3; arg 1; whnf
  obtain ⟨aE, dE, t1, t2, haE, fE, tE⟩ := C.lib.enc
  refine ex_ifF (te_neS (a := encL (bodyP ns) 76 [10]) (b := encL (bodyP ns) 76 [10]) (ev_fn1 (ev_global (C.lib.lib.g.keeps T1.ext) haE) (fE.keeps T1.ext) (ev_localS (a := bodyP ns) T1.ns rfl) ?_) (ev_meth1H PySem.F.slot_str_join PySem.F.type_str_join (ev_str (a := [])) (ev_comp2 (xs := linesL (bodyP ns)) (fun y => rowsT 76 (y.flatMap tr)) (fun z => z ++ [10]) hh (src_lines hh (ev_cell (c := L + 1) rfl T1.c1) (lY.up T1.ext)) (by omega) ?_ ?_ ?_ rfl (by decide) rfl (by decide) rfl rfl) ?_)) (by simp) (fun h₂ tk₂ e₂ => wpAny_execs_nil (k h₂ tk₂ (T1.up e₂)))
  · rintro _ ⟨ta, rfl⟩
    have hE := (Pl.trLen _ hbl).1
    have hE2 := Pl.encLen (bodyP ns) 76 [10] hbl (by omega) (by decide)
    exact encode_spec1 (C.lib.lib.keeps T1.ext) (fE.keeps T1.ext) (tE.keeps T1.ext) (by omega) hh Pl.last Pl.ok (by omega) (by omega)
  · have := (Pl.rowsPLen 76 (by omega)).1
    unfold rowsP at this
    omega
  · intro C' h' m y t e hn hm hy
    obtain ⟨hy1, hy2⟩ := hlm y hy
    have eK := T1.ext.trans e
    refine ev_fn2 (ev_global (C.lib.lib.g.keeps eK) haR) (fR.keeps eK) (ev_localMS (a := y) (m := m) hn hm) (ev_int (i := 76)) ?_
    · rintro _ _ ⟨ta, rfl⟩ ⟨tb', rfl⟩
      have h1 := (Pl.trLen y hy1).2
      have h2 := Pl.rowsLen 76 y hy1 (by omega)
      exact rows_spec (wd := 76) (C.lib.lib.keeps eK) (fR.keeps eK) (by omega) hh (by omega) (by omega) (fun c hc => by have := (hy2 c hc).1.lt; omega) (by omega) (by omega) (by omega)
  · intro C' h' m y z t e hn hy hz hm
    have hzr : z ∈ rowsP 76 (bodyP ns) := List.mem_flatMap.mpr ⟨y, hy, hz⟩
    have := (Pl.rowsPLen 76 (by omega)).2.1 z hzr
    exact add_str (ev_localMS (a := z) (m := m) hn hm) (ev_str (a := [10])) (by show z.length + 1 ≤ _; omega)
  · rintro t v q ⟨Z, rfl, hZ, hl⟩ e
    refine Co.post (co_join (sep := []) hl ?_) ?_
    · have h1 := Pl.rowsPLen 76 (by omega)
      have h2 := key 76 [10]
      show ((((rowsP 76 (bodyP ns)).map (· ++ [10])).map (·.length)).sum + _) ≤ _
      rw [h2.2]
      have h3 : (rowsP 76 (bodyP ns)).length * [10].length ≤ 5000 * 2 := Nat.mul_le_mul h1.1 (by decide)
      have h4 : ∀ n : Nat, n * ([] : List Nat).length = 0 := fun n => rfl
      rw [h4]
      omega
    · rw [joinL_nil, Pl.encRows 76 [10] (by omega)]
      exact fun v hv => hv
end
end Mine

/-! ### V13 -/
open PySem PySem.W PyProof.Rows PySem.Calls
set_option Elab.async false
set_option maxRecDepth 100000
set_option maxHeartbeats 4000000
set_option linter.unusedVariables false
namespace Mine
section
variable {w : World} {A : Around} {s : Shared} {E : Value → Shared → Prop} {mg mb : Str → Option Value} {hK hp : Heap} {PL L aL cL ax : Addr} {tk₀ : Nat} {Q : Flow → Shared → Prop}
/-- the fourth test -/
theorem law_5 {ns : List Int} {X D Y : Addr} {te tw tb tt : Tok} {n : Nat} (Pl : LawPlain ns) (C : LC mg mb cL PL hK) (hd : A.depth + 200 < recursionLimit) (hh : A.handled = none) (hu : A.units + 100 < cLine) (lY : IsStrL hK Y (linesL (bodyP ns)))
    (T : LS hK PL L (L + 1) (L + 2) (L + 3) (lawFr (.ref ax) (some (.ref X)) (some (.ref D)) (some (.str (S (bodyP ns)) tb)) (some (.str (S (encL (bodyP ns) (wideP ns) (endsP ns))) tt)) none) (some (.ref Y)) (some (.str (S (endsP ns)) te)) (some (.int (wideP ns) tw)) n hp)
    (k : ∀ h' tk, LS hK PL L (L + 1) (L + 2) (L + 3) (lawFr (.ref ax) (some (.ref X)) (some (.ref D)) (some (.str (S (bodyP ns)) tb)) (some (.str (S (encL (bodyP ns) (wideP ns) (endsP ns))) tt)) none) (some (.ref Y)) (some (.str (S (endsP ns)) te)) (some (.int (wideP ns) tw)) n h' →
      wpAny (model P w) A (execs [lawSt 11, lawSt 12, lawSt 13] (lenv L aL cL)) Q E (St s h' tk)) :
    wpAny (model P w) A (execs [lawSt 10, lawSt 11, lawSt 12, lawSt 13] (lenv L aL cL)) Q E (St s hp tk₀) := by
  have hlim : sizeLine = 16777216 := sizeLine_eq
  obtain ⟨hw1, hw2⟩ := wideP_ge ns
  have hel : (endsP ns).length ≤ 2 ∧ 1 ≤ (endsP ns).length := by rcases endsP_or ns with e | e <;> rw [e] <;> decide
  obtain ⟨hll, hlm⟩ := Pl.linesLen
  have hbl := Pl.len
  obtain ⟨aD, dD, ud, haD, fD, tD⟩ := C.lib.dec
  have hE2 := Pl.encLen (bodyP ns) (wideP ns) (endsP ns) hbl hw1 hel.1
  obtain ⟨wl, wok⟩ := Pl.encLast (wideP ns) (endsP ns) hw1 (endsP_or ns)
  have hdec : ∀ m, decL (encL (bodyP ns) (wideP ns) (endsP ns)) m = ((linesL (bodyP ns)).map (· ++ m)).flatten := fun m => Pl.decEnc (wideP ns) (endsP ns) m hw1 (endsP_or ns)
  have sumL : ∀ m : List Nat, m.length ≤ 2 → (((linesL (bodyP ns)).map (· ++ m)).map (·.length)).sum ≤ 200 * 102 := by
    intro m hm
    have : ∀ ls : List (List Nat), (∀ l ∈ ls, l.length ≤ 100) → ((ls.map (· ++ m)).map (·.length)).sum ≤ ls.length * 102 := by
      intro ls
      induction ls with
      | nil => intro _; simp
      | cons a r ih =>
        intro hl
        have h1 := hl a (by simp)
        have h2 := ih fun l hl' => hl l (by simp [hl'])
        simp only [List.map_cons, List.sum_cons, List.length_cons, List.length_append, Nat.succ_mul] at h2 ⊢
        omega
    refine Nat.le_trans (this _ fun l hl => (hlm l hl).1) (Nat.mul_le_mul_right _ hll)
  refine wpAny_execs_cons ?_
  conv => arg 3; arg 1; whnf
  refine ex_ifF (te_neL (xs := [decL (encL (bodyP ns) (wideP ns) (endsP ns)) [10], decL (encL (bodyP ns) (wideP ns) (endsP ns)) [43, 45]]) (ys := [[10], [43, 45]].map fun m => ((linesL (bodyP ns)).map (· ++ m)).flatten) (by omega)
    (CoH.post (ev_list2 (V := IsS (decL (encL (bodyP ns) (wideP ns) (endsP ns)) [10])) (V₂ := IsS (decL (encL (bodyP ns) (wideP ns) (endsP ns)) [43, 45])) (ev_fn1 (ev_global (C.lib.lib.g.keeps T.ext) haD) (fD.keeps T.ext) (ev_localS T.ns rfl) ?_) (ev_fn2 (ev_global (C.lib.lib.g.keeps T.ext) haD) (fD.keeps T.ext) (ev_localS T.ns rfl) (ev_str (a := [43, 45])) ?_)) ?_)
    (CoH.post (ev_compX (xs := [[10], [43, 45]]) (fun m => ((linesL (bodyP ns)).map (· ++ m)).flatten) (src_strs hh (CoH.post (ev_listS (xs := [[10], [43, 45]]) ⟨ev_str, rfl, ev_str, rfl, trivial⟩ (by rw [hlim]; decide)) ?_)) (by rw [hlim]; decide) ?_ rfl ⟨_, rfl⟩ rfl (by decide) rfl rfl) ?_) rfl) (by simp [hdec]) (fun h₁ tk₁ e₁ => wpAny_execs_nil (k h₁ tk₁ (T.up e₁)))
  · rintro _ ⟨ta, rfl⟩
    have := Pl.decLen (encL (bodyP ns) (wideP ns) (endsP ns)) [10] hE2 (by decide)
    exact decode_spec1 (C.lib.lib.keeps T.ext) (fD.keeps T.ext) (tD.keeps T.ext) (by omega) hh (.inl wl) wok (by omega) (by omega)
  · rintro _ _ ⟨ta, rfl⟩ ⟨tb', rfl⟩
    have := Pl.decLen (encL (bodyP ns) (wideP ns) (endsP ns)) [43, 45] hE2 (by decide)
    exact decode_spec (C.lib.lib.keeps T.ext) (fD.keeps T.ext) (tD.keeps T.ext) (by omega) hh (.inl wl) wok (by omega) (by omega) (by decide)
  · rintro v q ⟨Z, u, z, rfl, ⟨t1, rfl⟩, ⟨t2, rfl⟩, _, hZ⟩
    exact ⟨Z, rfl, _, ⟨_, hZ, rfl, 0, rfl⟩, .cons _ _ (.cons _ _ .nil)⟩
  · rintro v q ⟨Z, vs, rfl, _, hZ, hvs⟩
    exact ⟨Z, rfl, vs, ⟨_, hZ, rfl, 0, rfl⟩, hvs⟩
  · intro C' c h' m y t e hn hc hy h0
    have hyl : y.length ≤ 2 := by
      simp only [List.mem_cons, List.not_mem_nil, or_false] at hy
      rcases hy with rfl | rfl <;> decide
    refine ev_meth1H PySem.F.slot_str_join PySem.F.type_str_join (ev_str (a := [])) (ev_compS0 (xs := linesL (bodyP ns)) (fun z => z ++ y) (src_lines hh (ev_cell (c := L + 1) rfl (IsCell.up T.c1 e)) (lY.up (T.ext.trans e))) (by omega) ?_) ?_
    · intro C2 h'' m2 z t2 e2 hn2 hm2 hz
      have := (hlm z hz).1
      exact add_str (ev_localMS (a := z) (m := m2) hn2 hm2) (ev_cellS (a := y) (c := c) rfl (IsCell.up hc e2)) (by omega)
    · rintro t' v q ⟨Z, rfl, hZ, hl⟩ e2
      refine Co.post (co_join (sep := []) hl ?_) ?_
      · have := sumL y hyl
        show ((((linesL (bodyP ns)).map (· ++ y)).map (·.length)).sum + _) ≤ _
        have h4 : ∀ n : Nat, n * ([] : List Nat).length = 0 := fun n => rfl
        rw [h4]
        omega
      · rw [joinL_nil]; exact fun v hv => hv
  · rintro v q ⟨Z, rfl, _, hl⟩
    exact ⟨Z, rfl, hl⟩
end
end Mine

/-! ### V14 -/
open PySem PySem.W PyProof.Rows PySem.Calls
set_option Elab.async false
set_option maxRecDepth 100000
set_option maxHeartbeats 4000000
set_option linter.unusedVariables false
namespace Mine
section
variable {w : World} {A : Around} {h : Heap} {env : Env} {l r : Expr} {pos : Pos}
theorem ev_eqS {a b : List Nat} (ha : Ev w A env h l (IsS a)) (hb : Ev w A env h r (IsS b)) (hm : behindInMarks .Eq r = false := by rfl) : Ev w A env h (.Compare l [.Eq] [r] pos) (IsB (decide (a = b))) := by
  refine ev_cmp ha hb ?_ hm
  rintro _ _ ⟨t, rfl⟩ ⟨u, rfl⟩
  exact Co.still fun s Q E hQ => eq_str (hQ _ _ (by
    show Value.bool _ = Value.bool _
    congr 1
    by_cases e : a = b
    · subst e; simp
    · have : ¬ (PySem.Str.mk a.toArray = PySem.Str.mk b.toArray) := fun q => e (S_inj.mp q)
      simp [this, e]))
end
section
variable {w : World} {A : Around} {s : Shared} {E : Value → Shared → Prop} {mg mb : Str → Option Value} {hK hp : Heap} {PL L aL cL ax : Addr} {tk₀ : Nat} {Q : Flow → Shared → Prop}
/-- again, the fifth test, the end -/
theorem law_6 {ns : List Int} {X D Y : Addr} {te tw tb tt : Tok} {n : Nat} (Pl : LawPlain ns) (C : LC mg mb cL PL hK) (hd : A.depth + 200 < recursionLimit) (hh : A.handled = none) (lD : IsStrL hK D (drawnP ns)) (lY : IsStrL hK Y (linesL (bodyP ns))) (hn : n ≤ 164)
    (T : LS hK PL L (L + 1) (L + 2) (L + 3) (lawFr (.ref ax) (some (.ref X)) (some (.ref D)) (some (.str (S (bodyP ns)) tb)) (some (.str (S (encL (bodyP ns) (wideP ns) (endsP ns))) tt)) none) (some (.ref Y)) (some (.str (S (endsP ns)) te)) (some (.int (wideP ns) tw)) n hp)
    (k : ∀ h' tk, Ext hK h' → (∃ ps, h'.get? PL = some (tabObj ps)) → Q (.ret (.bool true)) (St s h' tk)) :
    wpAny (model P w) A (execs [lawSt 11, lawSt 12, lawSt 13] (lenv L aL cL)) Q E (St s hp tk₀) := by
  have hlim : sizeLine = 16777216 := sizeLine_eq
  obtain ⟨hw1, hw2⟩ := wideP_ge ns
  have hel : (endsP ns).length ≤ 2 ∧ 1 ≤ (endsP ns).length := by rcases endsP_or ns with e | e <;> rw [e] <;> decide
  obtain ⟨hll, hlm⟩ := Pl.linesLen
  have hbl := Pl.len
  have hcnt := Pl.cnt
  obtain ⟨aD, dD, ud, haD, fD, tD⟩ := C.lib.dec
  obtain ⟨aW, haW, fW⟩ := C.lib.raw
  have hdl := Pl.decLen (bodyP ns) (endsP ns) (by omega) hel.1
  -- again = decode(body, ends_of)
  refine wpAny_execs_cons ?_
  conv => arg 3; arg 1; whnf
  refine lx_assign T (V := fun v _ => IsS (decL (bodyP ns) (endsP ns)) v) (ev_fn2 (ev_global (C.lib.lib.g.keeps T.ext) haD) (fD.keeps T.ext) (ev_localS (a := bodyP ns) T.ns rfl) (ev_cellS (a := endsP ns) (c := L + 2) rfl T.c2) ?_) rfl (fun v g₁ h₁ tk₁ hv e₁ T₁ kb₁ => ?_)
  · rintro _ _ ⟨ta, rfl⟩ ⟨tb', rfl⟩
    exact decode_spec (C.lib.lib.keeps T.ext) (fD.keeps T.ext) (tD.keeps T.ext) (by omega) hh Pl.last Pl.ok (by omega) (by omega) (by omega)
  obtain ⟨tg, rfl⟩ := hv
  have T1 : LS hK PL L (L + 1) (L + 2) (L + 3) (lawFr (.ref ax) (some (.ref X)) (some (.ref D)) (some (.str (S (bodyP ns)) tb)) (some (.str (S (encL (bodyP ns) (wideP ns) (endsP ns))) tt)) (some (.str (S (decL (bodyP ns) (endsP ns))) tg))) (some (.ref Y)) (some (.str (S (endsP ns)) te)) (some (.int (wideP ns) tw)) n h₁ := T₁
  -- again != reduce(lambda so, each: so + decode(each, ends_of), drawn, '')
  refine wpAny_execs_cons ?_
  conv => arg 3; arg 1; whnf
  refine ix_ifF (I := LS hK PL L (L + 1) (L + 2) (L + 3) (lawFr (.ref ax) (some (.ref X)) (some (.ref D)) (some (.str (S (bodyP ns)) tb)) (some (.str (S (encL (bodyP ns) (wideP ns) (endsP ns))) tt)) (some (.str (S (decL (bodyP ns) (endsP ns))) tg))) (some (.ref Y)) (some (.str (S (endsP ns)) te)) (some (.int (wideP ns) tw)) n)
    (I' := LS hK PL L (L + 1) (L + 2) (L + 3) (lawFr (.ref ax) (some (.ref X)) (some (.ref D)) (some (.str (S (bodyP ns)) tb)) (some (.str (S (encL (bodyP ns) (wideP ns) (endsP ns))) tt)) (some (.str (S (decL (bodyP ns) (endsP ns))) tg))) (some (.ref Y)) (some (.str (S (endsP ns)) te)) (some (.int (wideP ns) tw)) 165)
    (inv_ne (a := decL (bodyP ns) (endsP ns)) (b := decL (bodyP ns) (endsP ns)) (InvCo.of (fun q T' => ev_localS T'.ns rfl) (fun _ _ T' e => T'.up e)) ?_) (by simp) T1 (fun h₂ tk₂ T₂ => wpAny_execs_nil ?_)
  · rw [← Pl.decParts (endsP ns)]
    refine red3 (g := fun so each => so ++ decL each (endsP ns)) rfl C lD rfl (by omega) hh (by show n ≤ 164; omega) rfl rfl ?_ rfl rfl
    intro f c' ctv pm h' A' T' hf hrec hd' hh' i x t u hx
    have hxm := List.mem_of_getElem? hx
    refine lam_call hf hrec (C.lib.lib.lim.keeps T'.ext) (by omega) (binds := [(Str.ofString "so", _), (Str.ofString "each", _)]) rfl (fun L' h₁ A'' hns e1 hd1 hh1 => ?_) (locs rfl) (by decide) rfl rfl rfl
    rw [fr_binds2 (r := []) rfl] at hns
    have eT := T'.ext.trans e1
    have hxl := Pl.partLen x hxm
    have hE2 := Pl.decLen x (endsP ns) (by omega) hel.1
    have hfl := fold_map_len (F := fun each => decL each (endsP ns)) (xs := drawnP ns) (M := 100000) (fun y hy => Pl.decLen y (endsP ns) (by have := Pl.partLen y hy; omega) hel.1) i
    refine add_str (ev_localS hns rfl) (ev_fn2 (ev_global (C.lib.lib.g.keeps eT) haD) (fD.keeps eT) (ev_localS (a := x) hns rfl) (ev_freeS (a := endsP ns) (c := L + 2) rfl (IsCell.up T'.c2 e1)) ?_) (by rw [hlim]; omega)
    rintro _ _ ⟨ta, rfl⟩ ⟨tb', rfl⟩
    exact decode_spec (C.lib.lib.keeps eT) (fD.keeps eT) (tD.keeps eT) (by omega) (by rw [hh1]; exact hh') (Pl.partLast x hxm) (Pl.partOk x hxm) (by omega) (by omega) (by omega)
  -- return again == ''.join([_law_raw(line, ends_of) for line in lines])
  have sumR : (((linesL (bodyP ns)).map fun l => decRow (endsP ns) (rstripL l)).map (·.length)).sum = (decL (bodyP ns) (endsP ns)).length := by
    unfold decL
    rw [List.length_flatMap, List.map_map]; rfl
  refine wpAny_execs_cons ?_
  conv => arg 3; arg 1; whnf
  refine ex_ret (V := fun v => v = .bool true) (Co.post (ev_eqS (a := decL (bodyP ns) (endsP ns)) (b := decL (bodyP ns) (endsP ns)) (ev_localS T₂.ns rfl) (ev_meth1H PySem.F.slot_str_join PySem.F.type_str_join (ev_str (a := [])) (ev_compS0 (xs := linesL (bodyP ns)) (fun l => decRow (endsP ns) (rstripL l)) (src_lines hh (ev_cell (c := L + 1) rfl T₂.c1) (lY.up T₂.ext)) (by omega) ?_) ?_)) (fun v hv => by rw [hv]; simp)) (fun v h₃ tk₃ hv e₃ => ?_)
  · intro C2 h'' m2 z t2 e2 hn2 hm2 hz
    obtain ⟨hz1, hz2⟩ := hlm z hz
    have eK := T₂.ext.trans e2
    have hrl := Pl.rowLen z (endsP ns) (by omega) hel.1
    refine ev_fn2 (ev_global (C.lib.lib.g.keeps eK) haW) (fW.keeps eK) (ev_localMS (a := z) (m := m2) hn2 hm2) (ev_cellS (a := endsP ns) (c := L + 2) rfl (IsCell.up T₂.c2 e2)) ?_
    rintro _ _ ⟨ta, rfl⟩ ⟨tb', rfl⟩
    exact raw_spec (C.lib.lib.keeps eK) (fW.keeps eK) (by omega) hh (by omega) (by omega) (by omega)
  · rintro t' v q ⟨Z, rfl, hZ, hl⟩ e2
    refine Co.post (co_join (sep := []) hl ?_) ?_
    · rw [sumR]
      have h4 : ∀ n : Nat, n * ([] : List Nat).length = 0 := fun n => rfl
      rw [h4]
      omega
    · rw [joinL_nil]
      intro v hv
      rw [← List.flatMap_def] at hv
      exact hv
  · subst hv
    have T3 := T₂.up e₃
    exact k h₃ tk₃ T3.ext (let ⟨ps, a, _⟩ := T3.tab; ⟨ps, a⟩)
end
end Mine

/-! ### V15 -/
open PySem PySem.W PyProof.Rows PySem.Calls
set_option Elab.async false
set_option maxRecDepth 100000
set_option maxHeartbeats 4000000
set_option linter.unusedVariables false
namespace Mine
theorem law_spec (hpl : ∀ ns : List Int, ns.length ≤ 8 → LawPlain ns) : LawSpec := by
  intro w mg mb s₁ hB aL cL PL ax ns pre
  obtain ⟨pm, doc, hfn⟩ := pre.fn
  obtain ⟨ivs, hl, hi⟩ := pre.list
  have Pl := hpl (ns.take 8) (by rw [List.length_take]; omega)
  have C : LC mg mb cL PL hB := ⟨pre.lib, pre.cd.1, pre.bm⟩
  have hroom : callerA.depth + 300 < recursionLimit := by decide
  refine law_entry (by omega) (pre.lib.lib.lim.keeps pre.ext) (pre.ext _ _ hfn) (pre.cd.2.keeps pre.ext) ?_
  intro L h₁ tk A' E' hns c1 c2 c3 hout hx hd hh hu
  have hh' : A'.handled = none := by rw [hh]; rfl
  have hu' : A'.units + 100 < cLine := by rw [hu]; decide
  have hPs : s₁.heap.get? PL ≠ none := by rw [pre.tab]; simp
  have hPn : ∀ b ∈ [L, L + 1, L + 2, L + 3], PL ≠ b := fun b hb q => hPs (by rw [q]; exact hout b hb)
  have hBn : ∀ b ∈ [L, L + 1, L + 2, L + 3], hB.get? b = none := fun b hb => by
    cases hq : hB.get? b with
    | none => rfl
    | some o => have := hout b hb; rw [pre.ext _ _ hq] at this; cases this
  have n1 : PL ≠ L := hPn _ (by simp)
  have n2 : PL ≠ L + 1 := hPn _ (by simp)
  have n3 : PL ≠ L + 2 := hPn _ (by simp)
  have n4 : PL ≠ L + 3 := hPn _ (by simp)
  have T0 : LS hB PL L (L + 1) (L + 2) (L + 3) (lawFr (.ref ax) none none none none none) none none none 0 h₁ := by
    refine ⟨hns, pre.ext.trans hx, ?_, ?_, c1, c2, c3, #[], hx _ _ pre.tab, LTab.nil, trivial⟩
    · intro b hb
      rcases List.mem_cons.mp hb with rfl | hb
      · exact pre.out
      · exact hBn b hb
    · have b1 : ∀ {i j : Nat}, i < j → L + i ≠ L + j := fun hij => Nat.ne_of_lt (Nat.add_lt_add_left hij _)
      have b0 : ∀ {j : Nat}, 0 < j → L ≠ L + j := fun hj => Nat.ne_of_lt (Nat.lt_add_of_pos_right hj)
      simp only [List.nodup_cons, List.mem_cons, List.not_mem_nil, or_false, not_or, not_false_eq_true, List.nodup_nil, and_true]
      exact ⟨⟨n1, n2, n3, n4⟩, ⟨b0 (by decide), b0 (by decide), b0 (by decide)⟩, ⟨b1 (by decide), b1 (by decide)⟩, b1 (by decide)⟩
  refine law_1 C (by omega) hh' hl hi pre.len T0 ?_
  intro hN X D te tw h₂ tk₂ eN lD T2
  have C2 := C.keeps eN
  refine law_2 Pl C2 (by omega) hh' lD T2 ?_
  intro hN3 Y tb tt n h₃ tk₃ eN3 lY hn T3
  have C3 := C2.keeps eN3
  have lD3 := lD.up eN3
  refine law_3 (again := none) Pl C3 (by omega) hh' lD3 hn T3 ?_
  intro h₄ tk₄ T4
  refine law_4 Pl C3 (by omega) hh' lY T4 ?_
  intro h₅ tk₅ T5
  refine law_5 Pl C3 (by omega) hh' hu' lY T5 ?_
  intro h₆ tk₆ T6
  refine law_6 Pl C3 (by omega) hh' lD3 lY (by omega) T6 ?_
  intro h₇ tk₇ e₇ hp
  refine ⟨rfl, ?_, hp, rfl, rfl⟩
  intro b o hb e
  exact e₇ _ _ (eN3 _ _ (eN _ _ (pre.all b o (by simpa using hb) e)))
theorem holds_of_plain (hpl : ∀ ns : List Int, ns.length ≤ 8 → LawPlain ns) : PySem.Challenge.rw_oc0117_01.Holds := holds_mine (law_spec hpl)
end Mine

/-! ### W1 -/
open PySem PySem.W PyProof.Rows PySem.Calls
set_option Elab.async false
set_option maxRecDepth 100000
set_option maxHeartbeats 1000000
set_option linter.unusedVariables false
set_option linter.unusedSimpArgs false
namespace Mine
/-! ## lines -/
theorem linesGo_app : ∀ (n : Nat) (cur a b : List Nat), a.length ≤ n → (a = [] ∨ a.getLast? = some 10) → (a = [] → cur = []) → linesGo cur (a ++ b) = linesGo cur a ++ linesGo [] b := by
  intro n
  induction n with
  | zero =>
    intro cur a b hn ha hc
    obtain rfl : a = [] := List.eq_nil_of_length_eq_zero (by omega)
    rw [hc rfl, List.nil_append, linesGo_nil]; simp
  | succ n ih =>
    intro cur a b hn ha hc
    cases a with
    | nil => rw [hc rfl, List.nil_append, linesGo_nil]; simp
    | cons c r =>
      have hlast : r = [] ∨ r.getLast? = some 10 := by
        rcases ha with q | q
        · cases q
        · cases r with
          | nil => exact .inl rfl
          | cons d r => right; simpa [List.getLast?_cons_cons] using q
      have hr : r.length ≤ n := by simp at hn; omega
      by_cases h10 : c = 10
      · subst h10
        rw [List.cons_append, linesGo_lf, linesGo_lf, ih [] r b hr hlast (fun _ => rfl), List.cons_append]
      · by_cases h13 : c = 13
        · subst h13
          cases r with
          | nil =>
            exfalso
            rcases ha with q | q
            · cases q
            · simp at q
          | cons d r =>
            by_cases hd : d = 10
            · subst hd
              have hlast' : r = [] ∨ r.getLast? = some 10 := by
                rcases hlast with q | q
                · cases q
                · cases r with
                  | nil => exact .inl rfl
                  | cons e r => right; simpa [List.getLast?_cons_cons] using q
              rw [List.cons_append, List.cons_append, linesGo_crlf, linesGo_crlf, ih [] r b (by simp at hr; omega) hlast' (fun _ => rfl), List.cons_append]
            · have e1 : linesGo cur (13 :: d :: r) = cur :: linesGo [] (d :: r) := linesGo_cr (by simpa using hd)
              have e2 : linesGo cur (13 :: (d :: r ++ b)) = cur :: linesGo [] (d :: r ++ b) := linesGo_cr (by simpa using hd)
              rw [List.cons_append, e2, e1, ih [] (d :: r) b hr hlast (fun q => by cases q), List.cons_append]
        · rw [List.cons_append, linesGo_plain h10 h13, linesGo_plain h10 h13]
          cases r with
          | nil =>
            exfalso
            rcases ha with q | q
            · cases q
            · simp at q; exact h10 q
          | cons d r => exact ih (cur ++ [c]) (d :: r) b hr hlast (fun q => by cases q)
theorem linesL_app {a b : List Nat} (ha : a = [] ∨ a.getLast? = some 10) : linesL (a ++ b) = linesL a ++ linesL b := linesGo_app a.length [] a b (Nat.le_refl _) ha (fun _ => rfl)
/-- parts that end in a line feed, but for the last -/
theorem linesL_flat : ∀ (ps : List (List Nat)), (∀ p ∈ ps.dropLast, p = [] ∨ p.getLast? = some 10) → linesL ps.flatten = ps.flatMap linesL
  | [], _ => by show linesL [] = []; unfold linesL; rw [linesGo_nil]; simp
  | [p], _ => by simp
  | p :: q :: r, h => by
    have h1 := h p (by simp)
    rw [List.flatten_cons, linesL_app h1, List.flatMap_cons, linesL_flat (q :: r) (fun x hx => h x (by simp [hx]))]
theorem lines_tr : ∀ (n : Nat) (cur a : List Nat), a.length ≤ n → (∀ c ∈ cur, c ≠ 10 ∧ c ≠ 13) → (∀ c ∈ a, c < 256) → (∀ c ∈ cur, c < 256) → linesGo (cur.flatMap tr) (a.flatMap trE) = (linesGo cur a).map (·.flatMap tr) := by
  intro n
  induction n with
  | zero =>
    intro cur a hn hc ha hcc
    obtain rfl : a = [] := List.eq_nil_of_length_eq_zero (by omega)
    rw [List.flatMap_nil, linesGo_nil, linesGo_nil]
    cases cur with
    | nil => simp
    | cons c r =>
      have : (c :: r).flatMap tr ≠ [] := by
        rw [List.flatMap_cons]
        intro q
        have := List.append_eq_nil_iff.mp q
        have h1 : tr c ≠ [] := by unfold tr; split <;> simp
        exact h1 this.1
      rw [if_neg this, if_neg (by simp)]
      rfl
  | succ n ih =>
    intro cur a hn hc ha hcc
    cases a with
    | nil => exact ih cur [] (by simp) hc ha hcc
    | cons c r =>
      have hr : r.length ≤ n := by simp at hn; omega
      have har : ∀ x ∈ r, x < 256 := fun x hx => ha x (by simp [hx])
      have hc256 := ha c (by simp)
      by_cases h10 : c = 10
      · subst h10
        have : trE 10 = [10] := rfl
        rw [List.flatMap_cons, this, List.singleton_append, linesGo_lf, linesGo_lf, List.map_cons]
        congr 1
        exact ih [] r hr (by simp) har (by simp)
      · by_cases h13 : c = 13
        · subst h13
          have e13 : trE 13 = [13] := rfl
          cases r with
          | nil =>
            rw [List.flatMap_cons, e13, List.flatMap_nil, List.singleton_append, linesGo_cr (by simp), linesGo_cr (by simp), List.map_cons]
            congr 1
            exact ih [] [] (by simp) (by simp) (by simp) (by simp)
          | cons d r =>
            by_cases hd : d = 10
            · subst hd
              have : trE 10 = [10] := rfl
              rw [List.flatMap_cons, List.flatMap_cons, e13, this, List.singleton_append, List.singleton_append, linesGo_crlf, linesGo_crlf, List.map_cons]
              congr 1
              exact ih [] r (by simp at hr; omega) (by simp) (fun x hx => har x (by simp [hx])) (by simp)
            · have hhd : ((d :: r).flatMap trE).head? ≠ some 10 := by
                rw [List.flatMap_cons]
                have hdd := har d (by simp)
                unfold trE tr
                split
                · rename_i h; rcases h with h | h
                  · exact absurd h hd
                  · simp [h]
                · split
                  · simp [hd]
                  · simp
              rw [List.flatMap_cons, e13, List.singleton_append, linesGo_cr hhd, linesGo_cr (by simpa using hd), List.map_cons]
              congr 1
              exact ih [] (d :: r) hr (by simp) har (by simp)
        · have e : trE c = tr c := by unfold trE; rw [if_neg (by simp [h10, h13])]
          have hno : ∀ x ∈ tr c, x ≠ 10 ∧ x ≠ 13 := by
            intro x hx
            have g1 := hexC_ok (c / 16) (by omega)
            have g2 := hexC_ok (c % 16) (by omega)
            unfold tr at hx
            split at hx
            · rw [List.mem_singleton.mp hx]; exact ⟨h10, h13⟩
            · simp only [List.mem_cons, List.not_mem_nil, or_false] at hx
              omega
          have plain : ∀ (t cur' rest : List Nat), (∀ x ∈ t, x ≠ 10 ∧ x ≠ 13) → linesGo cur' (t ++ rest) = linesGo (cur' ++ t) rest := by
            intro t
            induction t with
            | nil => intro cur' rest _; simp
            | cons x t iht =>
              intro cur' rest ht
              have hx := ht x (by simp)
              rw [List.cons_append, linesGo_plain hx.1 hx.2, iht _ _ (fun y hy => ht y (by simp [hy])), List.append_assoc, List.singleton_append]
          rw [List.flatMap_cons, e, plain _ _ _ hno, linesGo_plain h10 h13, ← ih (cur ++ [c]) r hr ?_ har ?_]
          · congr 1
            rw [List.flatMap_append, List.flatMap_singleton]
          · intro x hx
            rcases List.mem_append.mp hx with q | q
            · exact hc x q
            · rw [List.mem_singleton.mp q]; exact ⟨h10, h13⟩
          · intro x hx
            rcases List.mem_append.mp hx with q | q
            · exact hcc x q
            · rw [List.mem_singleton.mp q]; exact hc256
theorem linesL_tr {a : List Nat} (ha : ∀ c ∈ a, c < 256) : linesL (a.flatMap trE) = (linesL a).map (·.flatMap tr) := lines_tr a.length [] a (Nat.le_refl _) (by simp) ha (by simp)
end Mine

/-! ### W2 -/
open PySem PySem.W PyProof.Rows PySem.Calls
set_option Elab.async false
set_option maxRecDepth 100000
set_option maxHeartbeats 1000000
set_option linter.unusedVariables false
set_option linter.unusedSimpArgs false
namespace Mine
/-! ## sizes -/
theorem tr_len (c : Nat) : (tr c).length ≤ 3 := by unfold tr; split <;> simp
theorem trE_len3 (c : Nat) : (trE c).length ≤ 3 := by unfold trE; split; · simp
                                                      · exact tr_len c
theorem flatMap_len3 {f : Nat → List Nat} (h : ∀ c, (f c).length ≤ 3) (a : List Nat) : (a.flatMap f).length ≤ 3 * a.length := by
  induction a with
  | nil => simp
  | cons c r ih =>
    have := h c
    rw [List.flatMap_cons, List.length_append, List.length_cons]
    omega
theorem linesGo_sum : ∀ (n : Nat) (cur r : List Nat), r.length ≤ n → (((linesGo cur r).map (·.length)).sum ≤ cur.length + r.length) ∧ (linesGo cur r).length ≤ r.length + (if cur = [] then 0 else 1) := by
  intro n
  induction n with
  | zero =>
    intro cur r hr
    obtain rfl : r = [] := List.eq_nil_of_length_eq_zero (by omega)
    rw [linesGo_nil]
    split <;> simp
  | succ n ih =>
    intro cur r hr
    cases r with
    | nil => rw [linesGo_nil]; split <;> simp
    | cons c r =>
      have hr' : r.length ≤ n := by simp at hr; omega
      by_cases h10 : c = 10
      · subst h10
        obtain ⟨h1, h2⟩ := ih [] r hr'
        rw [linesGo_lf]
        simp only [List.map_cons, List.sum_cons, List.length_cons, List.length_nil, if_true] at h1 h2 ⊢
        omega
      · by_cases h13 : c = 13
        · subst h13
          by_cases hh : r.head? = some 10
          · cases r with
            | nil => simp at hh
            | cons d r =>
              have : d = 10 := by simpa using hh
              subst this
              obtain ⟨h1, h2⟩ := ih [] r (by simp at hr'; omega)
              rw [linesGo_crlf]
              simp only [List.map_cons, List.sum_cons, List.length_cons, List.length_nil, if_true] at h1 h2 ⊢
              omega
          · obtain ⟨h1, h2⟩ := ih [] r hr'
            rw [linesGo_cr hh]
            simp only [List.map_cons, List.sum_cons, List.length_cons, List.length_nil, if_true] at h1 h2 ⊢
            omega
        · obtain ⟨h1, h2⟩ := ih (cur ++ [c]) r hr'
          rw [linesGo_plain h10 h13]
          rw [if_neg (by simp)] at h2
          simp only [List.length_append, List.length_cons, List.length_nil] at h1 h2 ⊢
          refine ⟨by omega, by split <;> omega⟩
theorem linesL_sum (a : List Nat) : ((linesL a).map (·.length)).sum ≤ a.length ∧ (linesL a).length ≤ a.length := by
  have := linesGo_sum a.length [] a (Nat.le_refl _)
  unfold linesL
  simpa using this
theorem tailRows_len (w : Nat) (t : List Nat) : (tailRows w t).length ≤ 2 ∧ ((tailRows w t).map (·.length)).sum ≤ t.length + 4 := by
  have hm : (markOf t).length ≤ 3 := by unfold markOf; split <;> simp
  have hd : t.dropLast.length ≤ t.length := by simp
  unfold tailRows
  split
  · simp
  · split
    · simp only [List.length_singleton, List.map_cons, List.map_nil, List.sum_cons, List.sum_nil, List.length_append]; omega
    · split
      · simp
      · simp only [List.length_cons, List.length_nil, List.map_cons, List.map_nil, List.sum_cons, List.sum_nil, List.length_append]; omega
theorem rowsT_len (w : Nat) : ∀ (n : Nat) (t : List Nat), t.length ≤ n → (rowsT w t).length ≤ t.length + 2 ∧ ((rowsT w t).map (·.length)).sum ≤ 2 * t.length + 4 := by
  intro n
  induction n with
  | zero =>
    intro t ht
    have h := tailRows_len w t
    rw [rowsT, dif_neg (by omega)]
    omega
  | succ n ih =>
    intro t ht
    rw [rowsT]
    split
    · rename_i hw
      have hc : 1 ≤ cutAt w t ∧ cutAt w t ≤ w := by unfold cutAt; split <;> (try split) <;> omega
      have hdl : (t.drop (cutAt w t)).length = t.length - cutAt w t := List.length_drop
      obtain ⟨h1, h2⟩ := ih (t.drop (cutAt w t)) (by omega)
      have htk : (t.take (cutAt w t)).length ≤ cutAt w t := by rw [List.length_take]; omega
      simp only [List.length_cons, List.map_cons, List.sum_cons, List.length_append, List.length_nil]
      omega
    · have h := tailRows_len w t
      omega
end Mine

/-! ### W3 -/
open PySem PySem.W PyProof.Rows PySem.Calls
set_option Elab.async false
set_option maxRecDepth 100000
set_option maxHeartbeats 1000000
set_option linter.unusedVariables false
set_option linter.unusedSimpArgs false
namespace Mine
/-! ## the drawn parts -/
theorem piece_ok (x : Int) : ∀ c ∈ pieceOf x, Ok c := by
  unfold pieceOf
  split
  · have h10 := Int.fmod_lt_of_pos (x.fdiv 3) (b := 10) (by omega)
    generalize hk : ((x.fdiv 3).fmod 10).toNat = k
    have hk' : k < 10 := by omega
    have : ∀ k, k < 10 → ∀ c ∈ pieceL.getD k [], c = 9 ∨ c = 10 ∨ c = 13 ∨ (32 ≤ c ∧ c < 128) ∨ c = 233 := by decide
    exact this k hk'
  · have h96 := Int.fmod_lt_of_pos (x.fdiv 30) (b := 96) (by omega)
    intro c hc
    simp only [List.mem_append, List.mem_singleton] at hc
    unfold Ok
    omega
noncomputable def AllOk (xss : List (List (List Nat))) : Prop := ∀ p ∈ xss, ∀ q ∈ p, ∀ c ∈ q, Ok c
theorem grow_ok {xss : List (List (List Nat))} {x : Int} (h : AllOk xss) : AllOk (growP xss x) := by
  unfold growP
  split
  · intro p hp
    rcases List.mem_append.mp hp with q | q
    · exact h p q
    · rw [List.mem_singleton.mp q]; intro q hq; simp at hq
  · exact h
theorem step_ok {xss : List (List (List Nat))} {x : Int} (h : AllOk xss) : AllOk (stepP xss x) := by
  have hg := grow_ok (x := x) h
  unfold stepP
  split
  · intro p hp
    rcases List.mem_append.mp hp with q | q
    · exact hg p (List.dropLast_subset _ q)
    · rw [List.mem_singleton.mp q]
      intro r hr
      rcases List.mem_append.mp hr with z | z
      · rcases List.eq_nil_or_concat (growP xss x) with e | ⟨l, a, e⟩
        · rw [e] at z; simp at z
        · rw [e] at z hg
          have : (l.concat a).getLastD [] = a := by simp
          rw [this] at z
          exact hg a (by simp) r z
      · rw [List.mem_singleton.mp z]; exact piece_ok x
  · exact hg
theorem parts_ok (ns : List Int) : AllOk (partsP ns) := by
  have gen : ∀ (ns : List Int) (xss : List (List (List Nat))), AllOk xss → AllOk (ns.foldl stepP xss) := by
    intro ns
    induction ns with
    | nil => intro xss h; exact h
    | cons n r ih => intro xss h; exact ih _ (step_ok h)
  refine gen ns startP ?_
  have : ∀ p ∈ startP, ∀ q ∈ p, ∀ c ∈ q, c = 9 ∨ c = 10 ∨ c = 13 ∨ (32 ≤ c ∧ c < 128) ∨ c = 233 := by decide
  exact this
theorem texts_mem {ns : List Int} {t : List Nat} (h : t ∈ textsP ns) : ∃ q ∈ partsP ns, t = q.flatten ++ [10] := by
  unfold textsP at h
  obtain ⟨q, hq, e⟩ := List.mem_map.mp h
  exact ⟨q, hq, e.symm⟩
theorem ok10 : Ok 10 := .inr (.inl rfl)
theorem ok13 : Ok 13 := .inr (.inr (.inl rfl))
theorem end_or (ns : List Int) : endSign ns = 10 ∨ endSign ns = 13 := by unfold endSign; split <;> simp
theorem last_mem (ns : List Int) : (textsP ns).getLastD [] ∈ textsP ns := by
  have hne := textsP_ne ns
  rw [List.getLastD_eq_getLast?, List.getLast?_eq_some_getLast hne]
  exact List.getLast_mem hne
theorem text_ok {ns : List Int} {t : List Nat} (h : t ∈ textsP ns) : ∀ c ∈ t, Ok c := by
  obtain ⟨q, hq, rfl⟩ := texts_mem h
  intro c hc
  rcases List.mem_append.mp hc with z | z
  · obtain ⟨r, hr, hcr⟩ := List.mem_flatten.mp z
    exact parts_ok ns q hq r hr c hcr
  · rw [List.mem_singleton.mp z]; exact ok10
theorem text_len {ns : List Int} {t : List Nat} (h : t ∈ textsP ns) : t.length ≤ 13 + 2 * ns.length := by
  obtain ⟨q, hq, rfl⟩ := texts_mem h
  have := part_len hq
  rw [List.length_append]
  show _ + 1 ≤ _
  omega
theorem drawn_mem {ns : List Int} {p : List Nat} (h : p ∈ drawnP ns) : p ∈ textsP ns ∨ p = ((textsP ns).getLastD []).dropLast ++ [endSign ns] := by
  unfold drawnP at h
  rcases List.mem_append.mp h with q | q
  · exact .inl (List.dropLast_subset _ q)
  · exact .inr (List.mem_singleton.mp q)
theorem drawn_last {ns : List Int} {p : List Nat} (h : p ∈ drawnP ns) : p.getLast? = some 10 ∨ p.getLast? = some 13 := by
  rcases drawn_mem h with q | rfl
  · obtain ⟨q, _, rfl⟩ := texts_mem q
    left; simp
  · rcases end_or ns with e | e <;> rw [e] <;> simp
theorem drawn_ok {ns : List Int} {p : List Nat} (h : p ∈ drawnP ns) : ∀ c ∈ p, Ok c := by
  rcases drawn_mem h with q | rfl
  · exact text_ok q
  · intro c hc
    rcases List.mem_append.mp hc with z | z
    · exact text_ok (last_mem ns) c (List.dropLast_subset _ z)
    · rw [List.mem_singleton.mp z]
      rcases end_or ns with e | e <;> rw [e]
      · exact ok10
      · exact ok13
theorem drawn_len {ns : List Int} (hn : ns.length ≤ 8) {p : List Nat} (h : p ∈ drawnP ns) : p.length ≤ 30 := by
  rcases drawn_mem h with q | rfl
  · have := text_len q; omega
  · have := text_len (last_mem ns)
    rw [List.length_append, List.length_dropLast]
    show _ - 1 + 1 ≤ _
    omega
theorem drawn_cnt {ns : List Int} (hn : ns.length ≤ 8) : (drawnP ns).length ≤ 11 := by
  have h1 := (parts_inv ns).2
  have h2 : 0 < (textsP ns).length := List.length_pos_iff.mpr (textsP_ne ns)
  have h3 : (textsP ns).length = (partsP ns).length := by unfold textsP; simp
  unfold drawnP
  rw [List.length_append, List.length_dropLast]
  show _ - 1 + 1 ≤ _
  omega
/-- all but the last part end in a line feed -/
theorem drawn_front {ns : List Int} {p : List Nat} (h : p ∈ (drawnP ns).dropLast) : p.getLast? = some 10 := by
  unfold drawnP at h
  rw [List.dropLast_concat] at h
  obtain ⟨q, _, rfl⟩ := texts_mem (List.dropLast_subset _ h)
  simp
theorem body_len {ns : List Int} (hn : ns.length ≤ 8) : (bodyP ns).length ≤ 100 := by
  have ht := totP_parts ns
  have h1 := (parts_inv ns).2
  have key : (textsP ns).flatten.length = totP (partsP ns) + (partsP ns).length := by
    unfold textsP totP
    generalize partsP ns = xss
    induction xss with
    | nil => rfl
    | cons a r ih =>
      rw [List.map_cons, List.flatten_cons, List.length_append, ih, List.length_append, List.flatten_cons, List.flatten_append, List.length_append]
      simp only [List.length_cons, List.length_nil]
      omega
  have hd : (bodyP ns).length = (textsP ns).flatten.length := by
    unfold bodyP drawnP
    have hne := textsP_ne ns
    have hlast := textsP_last ns
    rcases List.eq_nil_or_concat (textsP ns) with e | ⟨l, a, e⟩
    · exact absurd e hne
    · rw [e] at hlast ⊢
      rw [List.concat_eq_append] at hlast ⊢
      have e1 : (l ++ [a]).getLastD [] = a := by simp
      rw [e1] at hlast ⊢
      have hp : 0 < a.length := List.length_pos_iff.mpr hlast
      rw [List.dropLast_concat, List.flatten_append, List.flatten_append, List.length_append, List.length_append]
      have e2 : [a.dropLast ++ [endSign ns]].flatten.length = a.length := by
        simp only [List.flatten_cons, List.flatten_nil, List.append_nil, List.length_append, List.length_dropLast, List.length_cons, List.length_nil]
        omega
      have e3 : [a].flatten.length = a.length := by simp
      omega
  omega
theorem body_ok {ns : List Int} : ∀ c ∈ bodyP ns, Ok c := by
  intro c hc
  unfold bodyP at hc
  obtain ⟨p, hp, hcp⟩ := List.mem_flatten.mp hc
  exact drawn_ok hp c hcp
theorem body_last {ns : List Int} : (bodyP ns).getLast? = some (endSign ns) := by
  unfold bodyP drawnP
  simp
end Mine

/-! ### W4 -/
open PySem PySem.W PyProof.Rows PySem.Calls
set_option Elab.async false
set_option maxRecDepth 100000
set_option maxHeartbeats 1000000
set_option linter.unusedVariables false
set_option linter.unusedSimpArgs false
namespace Mine
/-! ## what is read of what is written -/
theorem hex_in : ∀ d, d < 16 → hexC d ∈ hexL ∧ hv (hexC d) = d := by decide
theorem esc_val (c : Nat) (h : c < 256) : 16 * hv (hexC (c / 16)) + hv (hexC (c % 16)) = c := by
  rw [(hex_in _ (by omega)).2, (hex_in _ (by omega)).2]; omega
theorem dec_esc {m x : List Nat} {c : Nat} (h : c < 256) : decGo m (61 :: hexC (c / 16) :: hexC (c % 16) :: x) = c :: (if x = [] then m else decGo m x) := by
  rw [decGo_hex (hex_in _ (by omega)).1 (hex_in _ (by omega)).1, esc_val c h]
theorem dec_tr {m x : List Nat} {c : Nat} (h : c < 256) : decGo m (tr c ++ x) = c :: (if x = [] then m else decGo m x) := by
  unfold tr
  split
  · rename_i hc
    rw [List.singleton_append, decGo_ne hc.1]
  · exact dec_esc h
theorem dec_pre {m x : List Nat} (hx : x ≠ []) : ∀ (l : List Nat), (∀ c ∈ l, c < 256) → decGo m (l.flatMap tr ++ x) = l ++ decGo m x
  | [], _ => by simp
  | c :: r, h => by
    rw [List.flatMap_cons, List.append_assoc, dec_tr (h c (by simp)), if_neg (by simp [hx]), dec_pre hx r (fun d hd => h d (by simp [hd])), List.cons_append]
theorem dec_all {m l : List Nat} (hl : l ≠ []) (h : ∀ c ∈ l, c < 256) : decGo m (l.flatMap tr) = l ++ m := by
  rcases List.eq_nil_or_concat l with e | ⟨q, c, e⟩
  · exact absurd e hl
  · rw [List.concat_eq_append] at e
    subst e
    have h1 : tr c ≠ [] := by unfold tr; split <;> simp
    have h2 := dec_tr (m := m) (x := []) (h c (by simp))
    rw [List.append_nil, if_pos rfl] at h2
    rw [List.flatMap_append, List.flatMap_singleton, dec_pre h1 q (fun d hd => h d (by simp [hd])), h2]
    simp
theorem rstrip_end {a : List Nat} {c : Nat} (h : isBl c = false) : rstripL (a ++ [c]) = a ++ [c] := by
  unfold rstripL
  rw [List.reverse_append, List.reverse_singleton, List.singleton_append, List.dropWhile_cons, h]
  simp
theorem rstrip_keep {a : List Nat} (h : ∀ c, a.getLast? = some c → isBl c = false) : rstripL a = a := by
  rcases List.eq_nil_or_concat a with e | ⟨q, c, e⟩
  · subst e; rfl
  · rw [List.concat_eq_append] at e
    subst e
    exact rstrip_end (h c (by simp))
/-- where a row may be cut: the signs before are whole signs -/
theorem cut_whole {w : Nat} (hw : 4 ≤ w) : ∀ (l : List Nat), (∀ c ∈ l, c < 256) → w < (l.flatMap tr).length → ∃ a b, l = a ++ b ∧ (l.flatMap tr).take (cutAt w (l.flatMap tr)) = a.flatMap tr ∧ (l.flatMap tr).drop (cutAt w (l.flatMap tr)) = b.flatMap tr := by
  -- split at the last boundary not behind k
  have split : ∀ (l : List Nat) (k : Nat), k ≤ (l.flatMap tr).length → ∃ a b j, l = a ++ b ∧ k = (a.flatMap tr).length + j ∧ (j = 0 ∨ ∃ c r, b = c :: r ∧ j < (tr c).length) := by
    intro l
    induction l with
    | nil => intro k hk; exact ⟨[], [], 0, rfl, by simpa using hk, .inl rfl⟩
    | cons c r ih =>
      intro k hk
      by_cases hlt : k < (tr c).length
      · exact ⟨[], c :: r, k, rfl, by simp, .inr ⟨c, r, rfl, hlt⟩⟩
      · rw [List.flatMap_cons, List.length_append] at hk
        obtain ⟨a, b, j, e1, e2, e3⟩ := ih (k - (tr c).length) (by omega)
        refine ⟨c :: a, b, j, by rw [e1]; rfl, ?_, e3⟩
        rw [List.flatMap_cons, List.length_append]
        clear e3
        omega
  intro l hl hlen
  have atP : ∀ (a b : List Nat) (i : Nat), l = a ++ b → (l.flatMap tr)[(a.flatMap tr).length + i]? = (b.flatMap tr)[i]? := by
    intro a b i e
    rw [e, List.flatMap_append, List.getElem?_append_right (by omega)]
    congr 1; omega
  have noEq : ∀ c i, c < 256 → (tr c)[i]? = some 61 → i = 0 ∧ (tr c).length = 3 := by
    intro c i hc hi
    unfold tr at hi ⊢
    split
    · rename_i h
      rw [if_pos h] at hi
      cases i with
      | zero => simp at hi; exact absurd hi h.1
      | succ i => simp at hi
    · rename_i h
      rw [if_neg h] at hi
      have g1 : hexC (c / 16) ≠ 61 := by unfold hexC; split <;> omega
      have g2 : hexC (c % 16) ≠ 61 := by unfold hexC; split <;> omega
      match i with
      | 0 => exact ⟨rfl, rfl⟩
      | 1 => simp at hi; exact absurd hi g1
      | 2 => simp at hi; exact absurd hi g2
      | i + 3 => simp at hi
  have trl : ∀ c, (tr c).length = 1 ∨ ((tr c).length = 3 ∧ (tr c)[0]? = some 61) := by
    intro c; unfold tr; split <;> simp
  have fin : ∀ a b, l = a ++ b → cutAt w (l.flatMap tr) = (a.flatMap tr).length → ∃ a b, l = a ++ b ∧ (l.flatMap tr).take (cutAt w (l.flatMap tr)) = a.flatMap tr ∧ (l.flatMap tr).drop (cutAt w (l.flatMap tr)) = b.flatMap tr := by
    intro a b e ec
    refine ⟨a, b, e, ?_, ?_⟩
    · rw [ec, e, List.flatMap_append]; simp
    · rw [ec, e, List.flatMap_append]; simp
  have hcut : cutAt w (l.flatMap tr) ≤ (l.flatMap tr).length := by unfold cutAt; split <;> (try split) <;> omega
  obtain ⟨a, b, j, e1, e2, e3⟩ := split l (cutAt w (l.flatMap tr)) hcut
  rcases e3 with rfl | ⟨c, r, rfl, hj⟩
  · exact fin a b e1 (by omega)
  · by_cases hj0 : j = 0
    · exact fin a (c :: r) e1 (by omega)
    · exfalso
      have hc256 : c < 256 := hl c (by rw [e1]; simp)
      have hl3 : (tr c).length = 3 ∧ (tr c)[0]? = some 61 := by
        rcases trl c with q | q
        · omega
        · exact q
      have at0 : (l.flatMap tr)[(a.flatMap tr).length]? = some 61 := by
        have := atP a (c :: r) 0 e1
        rw [Nat.add_zero] at this
        rw [this, List.flatMap_cons, List.getElem?_append_left (by omega)]
        exact hl3.2
      have atj : ∀ i, i < 3 → i ≠ 0 → (l.flatMap tr)[(a.flatMap tr).length + i]? ≠ some 61 := by
        intro i hi hi0 q
        rw [atP a (c :: r) i e1, List.flatMap_cons, List.getElem?_append_left (by omega)] at q
        exact hi0 (noEq c i hc256 q).1
      unfold cutAt at e2
      split at e2
      · rename_i h3
        refine atj j (by omega) hj0 ?_
        rw [← e2]; exact h3
      · split at e2
        · rename_i h3 h2
          refine atj j (by omega) hj0 ?_
          rw [← e2]; exact h2
        · rename_i h3 h2
          have : j = 1 ∨ j = 2 := by omega
          rcases this with rfl | rfl
          · refine h2 ?_
            rw [show w - 2 = (a.flatMap tr).length by omega]; exact at0
          · refine h3 ?_
            rw [show w - 3 = (a.flatMap tr).length by omega]; exact at0
end Mine

/-! ### W5 -/
open PySem PySem.W PyProof.Rows PySem.Calls
set_option Elab.async false
set_option maxRecDepth 100000
set_option maxHeartbeats 1000000
set_option linter.unusedVariables false
set_option linter.unusedSimpArgs false
namespace Mine
open Builtin Builtin.Str StrLaws
/-! ## parting and replacing -/
inductive GP (y : List Nat) : List Nat → List Nat → List (List Nat) → Prop
  | nil (cur : List Nat) : GP y cur [] [cur]
  | hit (cur r : List Nat) (xs : List (List Nat)) : GP y [] r xs → GP y cur (y ++ r) (cur :: xs)
  | miss (cur r : List Nat) (c : Nat) (xs : List (List Nat)) : ¬ y <+: (c :: r) → GP y (cur ++ [c]) r xs → GP y cur (c :: r) xs
theorem gp_miss {x y : List Nat} {c : Nat} {xs : List (List Nat)} : ∀ (n a : Nat) (cur : List Nat), a + n = c → c ≤ x.length → (∀ k, a ≤ k → k < c → ¬ y <+: x.drop k) → GP y (cur ++ (x.take c).drop a) (x.drop c) xs → GP y cur (x.drop a) xs
  | 0, a, cur, hn, hc, hno, h => by
    obtain rfl : a = c := by omega
    have : (x.take a).drop a = [] := List.drop_eq_nil_iff.mpr (by rw [List.length_take]; omega)
    rw [this, List.append_nil] at h
    exact h
  | n + 1, a, cur, hn, hc, hno, h => by
    have hlt : a < x.length := by omega
    have hd : x.drop a = x[a] :: x.drop (a + 1) := List.drop_eq_getElem_cons hlt
    have hno1 := hno a (Nat.le_refl _) (by omega)
    rw [hd] at hno1 ⊢
    refine GP.miss _ _ _ _ hno1 (gp_miss n (a + 1) _ (by omega) hc (fun k h1 h2 => hno k (by omega) h2) ?_)
    have e : (x.take c).drop a = x[a] :: (x.take c).drop (a + 1) := by
      rw [List.drop_eq_getElem_cons (by rw [List.length_take]; omega)]
      congr 1
      exact List.getElem_take
    rw [e] at h
    rw [List.append_assoc]
    exact h
theorem at_iff {x y : List Nat} {k : Nat} : StrLaws.At (S x) (S y) x.length k ↔ k + y.length ≤ x.length ∧ (x.drop k).take y.length = y := by
  unfold StrLaws.At
  rw [subAt_eq, S_len]
  simp [S]
theorem gp_chain (x y : List Nat) (hy : 1 ≤ y.length) : ∀ (cuts : List Nat) (a f : Nat), a ≤ x.length → ChainG (S x) (S y) x.length a cuts f → (∀ k, f ≤ k → ¬ StrLaws.At (S x) (S y) x.length k) →
    ∃ xs : List (List Nat), partsFrom (S x) (S y).length a cuts = xs.map S ∧ GP y [] (x.drop a) xs ∧ xs.length ≤ cuts.length + 1
  | [], a, f, ha, h, hn => by
    have e : f = a := h
    subst e
    refine ⟨[x.drop f], ?_, ?_, by simp⟩
    · show [strSub (S x) f (S x).length] = _
      rw [S_len, show S x = ⟨x.toArray⟩ from rfl, strSub_S, List.take_length]
      rfl
    · refine gp_miss (c := x.length) (x.length - f) f [] (by omega) (Nat.le_refl _) ?_ ?_
      · intro k h1 h2 hp
        refine hn k h1 (at_iff.mpr ?_)
        obtain ⟨t, ht⟩ := hp
        have hl := congrArg List.length ht
        rw [List.length_append, List.length_drop] at hl
        refine ⟨by omega, by rw [← ht]; simp⟩
      · rw [List.nil_append, List.take_length, List.drop_length]
        exact GP.nil _
  | c :: r, a, f, ha, h, hn => by
    obtain ⟨h1, h2, h3, h4⟩ := h
    obtain ⟨hb, he⟩ := at_iff.mp h2
    have hyl : (S y).length = y.length := S_len y
    rw [hyl] at h4
    obtain ⟨xs, e1, e2, e3⟩ := gp_chain x y hy r (c + y.length) f hb h4 hn
    refine ⟨(x.take c).drop a :: xs, ?_, ?_, by simp; omega⟩
    · show strSub (S x) a c :: partsFrom (S x) (S y).length (c + (S y).length) r = _
      rw [hyl] at e1 ⊢
      rw [e1, show S x = ⟨x.toArray⟩ from rfl, strSub_S]
      simp
    · refine gp_miss (c := c) (c - a) a [] (by omega) (by omega) ?_ ?_
      · intro k k1 k2 hp
        refine h3 k k1 k2 (at_iff.mpr ?_)
        obtain ⟨t, ht⟩ := hp
        have hl := congrArg List.length ht
        rw [List.length_append, List.length_drop] at hl
        refine ⟨by omega, by rw [← ht]; simp⟩
      · have : x.drop c = y ++ x.drop (c + y.length) := by
          conv => lhs; rw [← List.take_append_drop y.length (x.drop c), he, List.drop_drop]
        rw [this, List.nil_append]
        exact GP.hit _ _ _ e2
theorem gp_occ (x y : List Nat) (hy : 1 ≤ y.length) : ∃ xs : List (List Nat), partsBetween (S x) (occurrences (S x) (S y) 0 (S x).length ((S x).length + 1)) (S y).length = xs.map S ∧ GP y [] x xs ∧ ((occurrences (S x) (S y) 0 (S x).length ((S x).length + 1)).isEmpty = true → xs = [x]) := by
  obtain ⟨f, h1, h2⟩ := occ_tight (S x) (S y) (by rw [S_len]; exact hy)
  have hl : (S x).length = x.length := S_len x
  have h1' := h1
  rw [hl] at h1 h2
  obtain ⟨xs, e1, e2, e3⟩ := gp_chain x y hy _ 0 f (Nat.zero_le _) h1 h2
  rw [partsBetween_eq, hl]
  refine ⟨xs, e1, by simpa using e2, fun he => ?_⟩
  rw [List.isEmpty_iff.mp he] at e1
  have e1' : [strSub (S x) 0 (S x).length] = xs.map S := e1
  rw [hl, show S x = ⟨x.toArray⟩ from rfl, strSub_S, List.take_length, List.drop_zero] at e1'
  match xs, e1' with
  | [a], e1' =>
    have := List.head_eq_of_cons_eq e1'
    have : x.toArray = a.toArray := congrArg Str.cps this
    have : x = a := by simpa using congrArg Array.toList this
    rw [this]
  | [], e1' => simp at e1'
  | a :: b :: r, e1' => simp at e1'
theorem replace_S (x y z : List Nat) (hy : 1 ≤ y.length) : ∃ xs : List (List Nat), Txt.replace (S x) (S y) (S z) = S (joinL z xs) ∧ GP y [] x xs := by
  obtain ⟨xs, e1, e2, e3⟩ := gp_occ x y hy
  refine ⟨xs, ?_, e2⟩
  unfold Txt.replace
  split
  · rename_i hc
    have : (S y).length = y.length := S_len y
    have h0 : ((S y).length == 0) = false := by rw [this]; simpa using Nat.ne_of_gt hy
    rw [h0, Bool.false_and, Bool.or_false] at hc
    rw [e3 hc]
    rfl
  · rw [e1, glued_S]
theorem kind_one (x : List Nat) : ¬ Str.strKind (S x) < Str.strKind (S [10]) := by
  have : Str.strKind (S [10]) = 1 := by simp [Str.strKind, S]
  rw [this]
  unfold Str.strKind
  split
  · omega
  · split <;> omega
theorem split_S (x : List Nat) (hx : 1 ≤ x.length) : ∃ xs : List (List Nat), Txt.split (S x) (S [10]) = xs.map S ∧ GP [10] [] x xs := by
  obtain ⟨xs, e1, e2, e3⟩ := gp_occ x [10] (by simp)
  refine ⟨xs, ?_, e2⟩
  unfold Txt.split
  rw [if_neg]
  · split
    · rename_i hc
      rw [e3 hc]; rfl
    · exact e1
  · rw [Bool.or_eq_true, decide_eq_true_eq, decide_eq_true_eq]
    rintro (h | h)
    · rw [S_len, S_len] at h
      have : [10].length = 1 := rfl
      omega
    · exact kind_one x h
/-! ## the three kinds -/
noncomputable def n1 : List Nat → List Nat
  | [] => []
  | 13 :: 10 :: r => 10 :: n1 r
  | c :: r => c :: n1 r
noncomputable def n2 (c : Nat) : Nat := if c = 13 then 10 else c
noncomputable def sp : List Nat → List Nat → List (List Nat)
  | cur, [] => [cur]
  | cur, c :: r => if c = 10 then cur :: sp [] r else sp (cur ++ [c]) r
theorem joinL_cons {z x : List Nat} {xs : List (List Nat)} (h : xs ≠ []) : joinL z (x :: xs) = x ++ z ++ joinL z xs := by
  cases xs with
  | nil => exact absurd rfl h
  | cons a r => rfl
theorem gp_ne {y cur a : List Nat} {xs : List (List Nat)} (h : GP y cur a xs) : xs ≠ [] := by
  induction h with
  | nil => simp
  | hit => simp
  | miss _ _ _ _ _ _ ih => exact ih
theorem gp_n1 {cur a : List Nat} {xs : List (List Nat)} (h : GP [13, 10] cur a xs) : joinL [10] xs = cur ++ n1 a := by
  induction h with
  | nil => simp [n1, joinL]
  | hit cur r xs hr ih =>
    rw [joinL_cons (gp_ne hr), ih]
    show _ = cur ++ n1 (13 :: 10 :: r)
    rw [n1]
    simp
  | miss cur r c xs hn hr ih =>
    rw [ih]
    have : n1 (c :: r) = c :: n1 r := by
      rw [n1]
      rintro r' rfl rfl
      exact hn ⟨r', rfl⟩
    rw [this]
    simp
theorem gp_n2 {cur a : List Nat} {xs : List (List Nat)} (h : GP [13] cur a xs) : joinL [10] xs = cur ++ a.map n2 := by
  induction h with
  | nil => simp [joinL]
  | hit cur r xs hr ih =>
    rw [joinL_cons (gp_ne hr), ih]
    simp [n2]
  | miss cur r c xs hn hr ih =>
    rw [ih]
    have : c ≠ 13 := by
      rintro rfl
      exact hn ⟨r, rfl⟩
    simp [n2, this]
theorem gp_sp {cur a : List Nat} {xs : List (List Nat)} (h : GP [10] cur a xs) : xs = sp cur a := by
  induction h with
  | nil => rfl
  | hit cur r xs hr ih =>
    show _ = sp cur (10 :: r)
    rw [sp, if_pos rfl, ih]
  | miss cur r c xs hn hr ih =>
    rw [ih]
    have : c ≠ 10 := by
      rintro rfl
      exact hn ⟨r, rfl⟩
    rw [sp, if_neg this]
theorem sp_ne : ∀ (cur a : List Nat), sp cur a ≠ []
  | cur, [] => by simp [sp]
  | cur, c :: r => by
    rw [sp]
    split
    · simp
    · exact sp_ne _ r
theorem n1_len : ∀ (n : Nat) (a : List Nat), a.length ≤ n → (n1 a).length ≤ a.length ∧ (a ≠ [] → 1 ≤ (n1 a).length) := by
  intro n
  induction n with
  | zero => intro a ha; obtain rfl : a = [] := List.eq_nil_of_length_eq_zero (by omega); simp [n1]
  | succ n ih =>
    intro a ha
    cases a with
    | nil => simp [n1]
    | cons c r =>
      by_cases h : ∃ r', c = 13 ∧ r = 10 :: r'
      · obtain ⟨r', rfl, rfl⟩ := h
        rw [n1]
        have := (ih r' (by simp at ha; omega)).1
        simp
        omega
      · rw [n1]
        · have := (ih r (by simp at ha; omega)).1
          simp
          omega
        · rintro r' rfl rfl
          exact h ⟨r', rfl, rfl⟩
theorem sp_len : ∀ (a cur : List Nat), (sp cur a).length ≤ a.length + 1
  | [], cur => by simp [sp]
  | c :: r, cur => by
    rw [sp]
    split
    · have := sp_len r []
      simp; omega
    · have := sp_len r (cur ++ [c])
      simp; omega
theorem sp_lines : ∀ (n : Nat) (cur a : List Nat), a.length ≤ n → (a = [] → cur = []) → (a = [] ∨ a.getLast? = some 10 ∨ a.getLast? = some 13) → (sp cur ((n1 a).map n2)).dropLast = linesGo cur a := by
  intro n
  induction n with
  | zero =>
    intro cur a hn hc ha
    obtain rfl : a = [] := List.eq_nil_of_length_eq_zero (by omega)
    rw [hc rfl, linesGo_nil]
    simp [n1, sp]
  | succ n ih =>
    intro cur a hn hc ha
    cases a with
    | nil => rw [hc rfl, linesGo_nil]; simp [n1, sp]
    | cons c r =>
      have hr : r.length ≤ n := by simp at hn; omega
      have hlast : r = [] ∨ r.getLast? = some 10 ∨ r.getLast? = some 13 := by
        cases r with
        | nil => exact .inl rfl
        | cons d r => right; simpa [List.getLast?_cons_cons] using ha
      have dl : ∀ (x : List Nat) (l : List (List Nat)), l ≠ [] → (x :: l).dropLast = x :: l.dropLast := fun x l h => List.dropLast_cons_of_ne_nil h
      by_cases h : ∃ r', c = 13 ∧ r = 10 :: r'
      · obtain ⟨r', rfl, rfl⟩ := h
        have hlast' : r' = [] ∨ r'.getLast? = some 10 ∨ r'.getLast? = some 13 := by
          cases r' with
          | nil => exact .inl rfl
          | cons d r => right; simpa [List.getLast?_cons_cons] using hlast
        rw [linesGo_crlf, n1, List.map_cons, sp, if_pos (by rfl), dl _ _ (sp_ne _ _), ih [] r' (by simp at hr; omega) (fun _ => rfl) hlast']
      · have e : n1 (c :: r) = c :: n1 r := by
          rw [n1]
          rintro r' rfl rfl
          exact h ⟨r', rfl, rfl⟩
        rw [e, List.map_cons, sp]
        by_cases h10 : c = 10
        · subst h10
          rw [if_pos (by rfl), dl _ _ (sp_ne _ _), ih [] r hr (fun _ => rfl) hlast, linesGo_lf]
        · by_cases h13 : c = 13
          · subst h13
            rw [if_pos (by rfl), dl _ _ (sp_ne _ _), ih [] r hr (fun _ => rfl) hlast, linesGo_cr]
            intro q
            cases r with
            | nil => simp at q
            | cons d r => exact h ⟨r, rfl, by simpa using q⟩
          · have e2 : n2 c = c := by simp [n2, h13]
            rw [e2, if_neg h10, linesGo_plain h10 h13]
            refine ih _ r hr (fun q => ?_) hlast
            subst q
            simp [h10, h13] at ha
theorem cut_all {a : List Nat} (ha : a.getLast? = some 10 ∨ a.getLast? = some 13) (hl : a.length ≤ 999) :
    ∃ (b1 b2 : List Nat) (xs : List (List Nat)), Txt.replace (S a) (S [13, 10]) (S [10]) = S b1 ∧ Txt.replace (S b1) (S [13]) (S [10]) = S b2 ∧ Txt.split (S b2) (S [10]) = xs.map S ∧ xs.dropLast = linesL a ∧ b1.length ≤ 1000 ∧ b2.length ≤ 1000 ∧ xs.length ≤ 1000 := by
  have hne : a ≠ [] := by rintro rfl; simp at ha
  obtain ⟨h1, h2⟩ := n1_len a.length a (Nat.le_refl _)
  have h2 := h2 hne
  obtain ⟨x1, e1, g1⟩ := replace_S a [13, 10] [10] (by simp)
  rw [gp_n1 g1, List.nil_append] at e1
  obtain ⟨x2, e2, g2⟩ := replace_S (n1 a) [13] [10] (by simp)
  rw [gp_n2 g2, List.nil_append] at e2
  obtain ⟨xs, e3, g3⟩ := split_S ((n1 a).map n2) (by simpa using h2)
  have hs := sp_len ((n1 a).map n2) []
  have hm : ((n1 a).map n2).length = (n1 a).length := by simp
  refine ⟨_, _, xs, e1, e2, e3, ?_, by omega, by omega, ?_⟩
  · rw [gp_sp g3]
    exact sp_lines a.length [] a (Nat.le_refl _) (fun _ => rfl) (.inr ha)
  · rw [gp_sp g3]; omega
end Mine

/-! ### W6 -/
open PySem PySem.W PyProof.Rows PySem.Calls
set_option Elab.async false
set_option maxRecDepth 100000
set_option maxHeartbeats 1000000
set_option linter.unusedVariables false
set_option linter.unusedSimpArgs false
namespace Mine
/-! ## rows are read as the line that they were written for -/
theorem tr_bl {c d : Nat} (hc : c < 256) (h : (tr c).getLast? = some d) (hd : isBl d = true) : c = d ∧ tr c = [d] := by
  have g := hexC_ok (c % 16) (by omega)
  unfold tr at h ⊢
  split
  · rename_i q
    rw [if_pos q] at h
    have : c = d := by simpa using h
    rw [this]; exact ⟨rfl, rfl⟩
  · rename_i q
    rw [if_neg q] at h
    have : hexC (c % 16) = d := by simpa using h
    unfold isBl at hd
    simp at hd
    omega
theorem tr_ne (c : Nat) : tr c ≠ [] := by unfold tr; split <;> simp
/-- a blank at the end of what is written stands for itself -/
theorem last_bl {l : List Nat} {d : Nat} (hl : ∀ c ∈ l, c < 256) (h : (l.flatMap tr).getLast? = some d) (hd : isBl d = true) : ∃ q, l = q ++ [d] ∧ l.flatMap tr = q.flatMap tr ++ [d] := by
  rcases List.eq_nil_or_concat l with e | ⟨q, c, e⟩
  · subst e; simp at h
  · rw [List.concat_eq_append] at e
    subst e
    have hne := tr_ne c
    rw [List.flatMap_append, List.flatMap_singleton, List.getLast?_append, List.getLast?_eq_some_getLast hne, Option.some_or, ← List.getLast?_eq_some_getLast hne] at h
    obtain ⟨e1, e2⟩ := tr_bl (hl c (by simp)) h hd
    refine ⟨q, by rw [e1], ?_⟩
    rw [List.flatMap_append, List.flatMap_singleton, e2]
theorem decRow_ne {m a : List Nat} (h : a ≠ []) : decRow m a = decGo m a := by unfold decRow; rw [if_neg h]
theorem soft_row {m l : List Nat} (hl : ∀ c ∈ l, c < 256) : decRow m (rstripL (l.flatMap tr ++ [61])) = l := by
  rw [rstrip_end (by rfl), decRow_ne (by simp), dec_pre (by simp) l hl, decGo_end, List.append_nil]
theorem dec_tail {m : List Nat} {w : Nat} {l : List Nat} (hl : ∀ c ∈ l, c < 256) : (tailRows w (l.flatMap tr)).flatMap (fun r => decRow m (rstripL r)) = l ++ m := by
  by_cases hm : markOf (l.flatMap tr) = []
  · have hk : rstripL (l.flatMap tr) = l.flatMap tr := by
      refine rstrip_keep fun c hc => ?_
      unfold markOf at hm
      rw [hc] at hm
      unfold isBl
      by_cases h1 : c = 32
      · subst h1; simp at hm
      · by_cases h2 : c = 9
        · subst h2; simp at hm
        · simp [h1, h2]
    unfold tailRows
    rw [if_pos hm, List.flatMap_singleton, hk]
    by_cases hz : l = []
    · subst hz; rfl
    · have : l.flatMap tr ≠ [] := by
        cases l with
        | nil => exact absurd rfl hz
        | cons c r =>
          rw [List.flatMap_cons]
          intro q
          exact tr_ne c (List.append_eq_nil_iff.mp q).1
      rw [decRow_ne this, dec_all hz hl]
  · have hd : ∃ d, (l.flatMap tr).getLast? = some d ∧ isBl d = true ∧ markOf (l.flatMap tr) = [61, hexC (d / 16), hexC (d % 16)] := by
      unfold markOf at hm ⊢
      cases hq : (l.flatMap tr).getLast? with
      | none => rw [hq] at hm; simp at hm
      | some d =>
        rw [hq] at hm
        refine ⟨d, rfl, ?_⟩
        by_cases h1 : d = 32
        · subst h1; exact ⟨rfl, rfl⟩
        · by_cases h2 : d = 9
          · subst h2; exact ⟨rfl, rfl⟩
          · exfalso
            apply hm
            split
            · rename_i q; exact absurd (Option.some.inj q) h1
            · rename_i q; exact absurd (Option.some.inj q) h2
            · rfl
    obtain ⟨d, h1, h2, h3⟩ := hd
    obtain ⟨q, e1, e2⟩ := last_bl hl h1 h2
    have hd256 : d < 256 := hl d (by rw [e1]; simp)
    have hq : ∀ c ∈ q, c < 256 := fun c hc => hl c (by rw [e1]; simp [hc])
    have hdl : (l.flatMap tr).dropLast = q.flatMap tr := by rw [e2, List.dropLast_concat]
    have hmk : decGo m (markOf (l.flatMap tr)) = d :: m := by rw [h3, dec_esc hd256, if_pos rfl]
    have hbl : isBl (hexC (d % 16)) = false := by
      have g := hexC_ok (d % 16) (by omega)
      unfold isBl
      simp
      omega
    have hms : ∀ a, rstripL (a ++ markOf (l.flatMap tr)) = a ++ markOf (l.flatMap tr) := by
      intro a
      rw [h3]
      have : a ++ [61, hexC (d / 16), hexC (d % 16)] = (a ++ [61, hexC (d / 16)]) ++ [hexC (d % 16)] := by simp
      rw [this, rstrip_end hbl]
    unfold tailRows
    rw [if_neg hm]
    split
    · rw [List.flatMap_singleton, hms, decRow_ne (by simp [hm]), hdl, dec_pre hm q hq, hmk, e1]
      simp
    · split
      · rw [List.flatMap_cons, List.flatMap_singleton, soft_row hl]
        rfl
      · rw [List.flatMap_cons, List.flatMap_singleton, hdl, soft_row hq]
        have := hms []
        rw [List.nil_append] at this
        rw [this, decRow_ne hm, hmk, e1]
        simp
theorem dec_rows {m : List Nat} {w : Nat} (hw : 4 ≤ w) : ∀ (n : Nat) (l : List Nat), l.length ≤ n → (∀ c ∈ l, c < 256) → (rowsT w (l.flatMap tr)).flatMap (fun r => decRow m (rstripL r)) = l ++ m := by
  intro n
  induction n with
  | zero =>
    intro l hn hl
    obtain rfl : l = [] := List.eq_nil_of_length_eq_zero (by omega)
    rw [rowsT_short (by simp)]
    exact dec_tail hl
  | succ n ih =>
    intro l hn hl
    by_cases hlen : w < (l.flatMap tr).length
    · rw [rowsT_long hlen hw]
      obtain ⟨a, b, e1, e2, e3⟩ := cut_whole hw l hl hlen
      have hc := cutAt_bounds (rest := l.flatMap tr) hw
      have ha : a ≠ [] := by
        rintro rfl
        have := congrArg List.length e2
        rw [List.length_take, List.flatMap_nil, List.length_nil] at this
        omega
      have hal : 0 < a.length := List.length_pos_iff.mpr ha
      have hll := congrArg List.length e1
      rw [List.length_append] at hll
      rw [List.flatMap_cons, e2, e3, soft_row (fun c hc => hl c (by rw [e1]; simp [hc])), ih b (by omega) (fun c hc => hl c (by rw [e1]; simp [hc])), e1, List.append_assoc]
    · rw [rowsT_short hlen]
      exact dec_tail hl
/-! ## lines of rows -/
theorem linesGo_run : ∀ (t cur' rest : List Nat), (∀ x ∈ t, x ≠ 10 ∧ x ≠ 13) → linesGo cur' (t ++ rest) = linesGo (cur' ++ t) rest := by
  intro t
  induction t with
  | nil => intro cur' rest _; simp
  | cons x t iht =>
    intro cur' rest ht
    have hx := ht x (by simp)
    rw [List.cons_append, linesGo_plain hx.1 hx.2, iht _ _ (fun y hy => ht y (by simp [hy])), List.append_assoc, List.singleton_append]
theorem lines_rows {e : List Nat} (he : e = [10] ∨ e = [13, 10]) : ∀ (rs : List (List Nat)), (∀ r ∈ rs, ∀ c ∈ r, c ≠ 10 ∧ c ≠ 13) → linesL (rs.flatMap (· ++ e)) = rs
  | [], _ => by show linesGo [] [] = []; rw [linesGo_nil]; simp
  | r :: rs, h => by
    have ih := lines_rows he rs fun r hr => h r (by simp [hr])
    unfold linesL at ih ⊢
    rw [List.flatMap_cons, List.append_assoc, linesGo_run _ _ _ (h r (by simp)), List.nil_append]
    rcases he with rfl | rfl
    · rw [List.singleton_append, linesGo_lf, ih]
    · have : [13, 10] ++ List.flatMap (fun x => x ++ [13, 10]) rs = 13 :: 10 :: List.flatMap (fun x => x ++ [13, 10]) rs := rfl
      rw [this, linesGo_crlf, ih]
theorem mark_mem {t : List Nat} {c : Nat} (h : c ∈ markOf t) : c = 61 ∨ c = 50 ∨ c = 48 ∨ c = 57 := by
  unfold markOf at h
  split at h
  · simp at h; omega
  · simp at h; omega
  · simp at h
theorem rowsT_mem {w : Nat} : ∀ (n : Nat) (t : List Nat), t.length ≤ n → ∀ r ∈ rowsT w t, ∀ c ∈ r, c ∈ t ∨ c = 61 ∨ c = 50 ∨ c = 48 ∨ c = 57 := by
  have tail : ∀ t, ∀ r ∈ tailRows w t, ∀ c ∈ r, c ∈ t ∨ c = 61 ∨ c = 50 ∨ c = 48 ∨ c = 57 := by
    intro t r hr c hc
    have hdl : c ∈ t.dropLast → c ∈ t := fun q => List.dropLast_subset _ q
    unfold tailRows at hr
    split at hr
    · rw [List.mem_singleton.mp hr] at hc; exact .inl hc
    · split at hr
      · rw [List.mem_singleton.mp hr] at hc
        rcases List.mem_append.mp hc with q | q
        · exact .inl (hdl q)
        · exact .inr (mark_mem q)
      · split at hr
        · simp only [List.mem_cons, List.not_mem_nil, or_false] at hr
          rcases hr with rfl | rfl
          · rcases List.mem_append.mp hc with q | q
            · exact .inl q
            · exact .inr (.inl (List.mem_singleton.mp q))
          · simp at hc
        · simp only [List.mem_cons, List.not_mem_nil, or_false] at hr
          rcases hr with rfl | rfl
          · rcases List.mem_append.mp hc with q | q
            · exact .inl (hdl q)
            · exact .inr (.inl (List.mem_singleton.mp q))
          · exact .inr (mark_mem hc)
  intro n
  induction n with
  | zero =>
    intro t ht
    rw [rowsT_short (by omega)]
    exact tail t
  | succ n ih =>
    intro t ht
    by_cases h : w < t.length ∧ 4 ≤ w
    · rw [rowsT_long h.1 h.2]
      have hc := cutAt_bounds (rest := t) h.2
      intro r hr c hcr
      rcases List.mem_cons.mp hr with rfl | hr
      · rcases List.mem_append.mp hcr with q | q
        · exact .inl (List.mem_of_mem_take q)
        · exact .inr (.inl (List.mem_singleton.mp q))
      · rcases ih (t.drop (cutAt w t)) (by rw [List.length_drop]; omega) r hr c hcr with q | q
        · exact .inl (List.mem_of_mem_drop q)
        · exact .inr q
    · rw [rowsT, dif_neg h]
      exact tail t
end Mine

/-! ### W7 -/
open PySem PySem.W PyProof.Rows PySem.Calls
set_option Elab.async false
set_option maxRecDepth 100000
set_option maxHeartbeats 1000000
set_option linter.unusedVariables false
set_option linter.unusedSimpArgs false
namespace Mine
/-! ## the plain facts -/
theorem rows_sum (w : Nat) : ∀ (ls : List (List Nat)), (ls.flatMap (rowsT w)).length ≤ (ls.map (·.length)).sum + 2 * ls.length ∧ ((ls.flatMap (rowsT w)).map (·.length)).sum ≤ 2 * (ls.map (·.length)).sum + 4 * ls.length
  | [] => by simp
  | l :: ls => by
    obtain ⟨h1, h2⟩ := rows_sum w ls
    obtain ⟨h3, h4⟩ := rowsT_len w l.length l (Nat.le_refl _)
    rw [List.flatMap_cons, List.map_append, List.sum_append, List.length_append, List.map_cons, List.sum_cons, List.length_cons]
    omega
theorem enc_rows_len {b : List Nat} (w : Nat) (hb : b.length ≤ 100) : ((linesL (b.flatMap trE)).flatMap (rowsT w)).length ≤ 900 ∧ (((linesL (b.flatMap trE)).flatMap (rowsT w)).map (·.length)).sum ≤ 1800 := by
  have h1 := flatMap_len3 trE_len3 b
  obtain ⟨h2, h3⟩ := linesL_sum (b.flatMap trE)
  obtain ⟨h4, h5⟩ := rows_sum w (linesL (b.flatMap trE))
  omega
theorem mem_sum {l : List (List Nat)} {x : List Nat} (h : x ∈ l) : x.length ≤ (l.map (·.length)).sum := by
  induction l with
  | nil => simp at h
  | cons a r ih =>
    rw [List.map_cons, List.sum_cons]
    rcases List.mem_cons.mp h with rfl | h
    · omega
    · have := ih h; omega
theorem rows_eq {w : Nat} {b : List Nat} (hb : ∀ c ∈ b, c < 256) : (linesL (b.flatMap trE)).flatMap (rowsT w) = rowsP w b := by
  unfold rowsP
  rw [linesL_tr hb, List.flatMap_map]
theorem decGo_len (e : List Nat) : ∀ (n : Nat) (a : List Nat), a.length ≤ n → (decGo e a).length ≤ a.length + e.length := by
  intro n
  induction n with
  | zero =>
    intro a ha
    obtain rfl : a = [] := List.eq_nil_of_length_eq_zero (by omega)
    rw [decGo.eq_def]; simp
  | succ n ih =>
    intro a ha
    cases a with
    | nil => rw [decGo.eq_def]; simp
    | cons c r =>
      have hr : r.length ≤ n := by simp at ha; omega
      by_cases hc : c = 61
      · subst hc
        cases r with
        | nil => rw [decGo_end]; simp
        | cons x r =>
          cases r with
          | nil =>
            rw [decGo_one]
            have := ih [x] hr
            simp only [List.length_cons, List.length_nil] at this ⊢
            omega
          | cons y r =>
            by_cases hh : x ∈ hexL ∧ y ∈ hexL
            · rw [decGo_hex hh.1 hh.2]
              have := ih r (by simp at hr; omega)
              split
              · simp; omega
              · simp only [List.length_cons]; omega
            · rw [decGo_not hh]
              have := ih (x :: y :: r) hr
              simp only [List.length_cons] at this ⊢
              omega
      · rw [decGo_ne hc]
        have := ih r hr
        split
        · simp; omega
        · simp only [List.length_cons]; omega
theorem decRow_len (e a : List Nat) : (decRow e (rstripL a)).length ≤ a.length + e.length := by
  have h1 := rstripL_len a
  have h2 := decGo_len e (rstripL a).length (rstripL a) (Nat.le_refl _)
  unfold decRow
  split <;> omega
theorem decL_len (b e : List Nat) : (decL b e).length ≤ b.length + b.length * e.length := by
  obtain ⟨h1, h2⟩ := linesL_sum b
  have gen : ∀ ls : List (List Nat), (ls.flatMap fun l => decRow e (rstripL l)).length ≤ (ls.map (·.length)).sum + ls.length * e.length := by
    intro ls
    induction ls with
    | nil => simp
    | cons l ls ih =>
      have := decRow_len e l
      rw [List.flatMap_cons, List.length_append, List.map_cons, List.sum_cons, List.length_cons, Nat.succ_mul]
      omega
  have h3 := gen (linesL b)
  have h4 : (linesL b).length * e.length ≤ b.length * e.length := Nat.mul_le_mul_right _ h2
  unfold decL
  omega
theorem foldT_flat (f : List Nat → List Nat) (xs : List (List Nat)) : foldT (fun so each => so ++ f each) [] xs = xs.flatMap f := by
  have gen : ∀ (xs : List (List Nat)) (acc : List Nat), xs.foldl (fun so each => so ++ f each) acc = acc ++ xs.flatMap f := by
    intro xs
    induction xs with
    | nil => intro acc; simp
    | cons x r ih => intro acc; rw [List.foldl_cons, ih, List.flatMap_cons, List.append_assoc]
  unfold foldT
  rw [gen, List.nil_append]
theorem drawn_lines (ns : List Int) : linesL (bodyP ns) = (drawnP ns).flatMap linesL := by
  unfold bodyP
  exact linesL_flat _ fun p hp => .inr (drawn_front hp)
theorem drawn_linesE (ns : List Int) : linesL ((bodyP ns).flatMap trE) = (drawnP ns).flatMap fun p => linesL (p.flatMap trE) := by
  have e : (bodyP ns).flatMap trE = ((drawnP ns).map (·.flatMap trE)).flatten := by
    unfold bodyP
    generalize drawnP ns = ps
    induction ps with
    | nil => rfl
    | cons p r ih => rw [List.flatten_cons, List.flatMap_append, ih, List.map_cons, List.flatten_cons]
  rw [e, linesL_flat, List.flatMap_map]
  intro p hp
  rw [← List.map_dropLast] at hp
  obtain ⟨q, hq, rfl⟩ := List.mem_map.mp hp
  right
  have := drawn_front hq
  rw [trE_last (.inl this)]
  exact this
theorem Ok.lt256 {c : Nat} (h : Ok c) : c < 256 := by have := h.lt; omega
theorem linesGo_ne : ∀ (n : Nat) (cur a : List Nat), a.length ≤ n → (a ≠ [] ∨ cur ≠ []) → linesGo cur a ≠ [] := by
  intro n
  induction n with
  | zero =>
    intro cur a hn h
    obtain rfl : a = [] := List.eq_nil_of_length_eq_zero (by omega)
    rw [linesGo_nil, if_neg (by simpa using h)]
    simp
  | succ n ih =>
    intro cur a hn h
    cases a with
    | nil => rw [linesGo_nil, if_neg (by simpa using h)]; simp
    | cons c r =>
      by_cases h10 : c = 10
      · subst h10; rw [linesGo_lf]; simp
      · by_cases h13 : c = 13
        · subst h13
          by_cases hh : r.head? = some 10
          · cases r with
            | nil => simp at hh
            | cons d r =>
              have : d = 10 := by simpa using hh
              subst this
              rw [linesGo_crlf]; simp
          · rw [linesGo_cr hh]; simp
        · rw [linesGo_plain h10 h13]
          exact ih _ r (by simp at hn; omega) (.inr (by simp))
theorem rowsT_ne (w : Nat) (t : List Nat) : rowsT w t ≠ [] := by
  by_cases h : w < t.length ∧ 4 ≤ w
  · rw [rowsT_long h.1 h.2]; simp
  · rw [rowsT, dif_neg h]
    unfold tailRows
    split
    · simp
    · split
      · simp
      · split <;> simp
theorem law_plain (ns : List Int) (hn : ns.length ≤ 8) : LawPlain ns := by
  have hlast : (bodyP ns).getLast? = some 10 ∨ (bodyP ns).getLast? = some 13 := by
    rw [body_last]
    rcases end_or ns with e | e <;> rw [e] <;> simp
  have hlen := body_len hn
  have hok := body_ok (ns := ns)
  have h256 : ∀ c ∈ bodyP ns, c < 256 := fun c hc => (hok c hc).lt256
  have hrow : ∀ w, ∀ r ∈ rowsP w (bodyP ns), ∀ c ∈ r, Ok c ∧ c ≠ 10 ∧ c ≠ 13 := by
    intro w r hr c hc
    unfold rowsP at hr
    obtain ⟨l, hl, hr⟩ := List.mem_flatMap.mp hr
    rcases rowsT_mem (l.flatMap tr).length _ (Nat.le_refl _) r hr c hc with q | q
    · obtain ⟨x, hx, hcx⟩ := List.mem_flatMap.mp q
      exact tr_ok (hok x (linesL_mem hl x hx).1) hcx
    · unfold Ok
      omega
  have hlines : ∀ l ∈ linesL (bodyP ns), ∀ c ∈ l, c < 256 := fun l hl c hc => h256 c (linesL_mem hl c hc).1
  have hne : linesL (bodyP ns) ≠ [] := by
    refine linesGo_ne _ [] (bodyP ns) (Nat.le_refl _) (.inl ?_)
    intro q
    rw [q] at hlast
    simp at hlast
  exact
    { cut := cut_all hlast (by omega)
      last := hlast
      ok := hok
      len := hlen
      cnt := drawn_cnt hn
      partLast := fun p hp => drawn_last hp
      partOk := fun p hp => drawn_ok hp
      partLen := fun p hp => by have := drawn_len hn hp; omega
      encLen := by
        intro b wd e hb hw he
        obtain ⟨h1, h2⟩ := enc_rows_len wd hb
        have h3 := flat_sum e ((linesL (b.flatMap trE)).flatMap (rowsT wd))
        have h4 : ((linesL (b.flatMap trE)).flatMap (rowsT wd)).length * e.length ≤ 900 * 2 := Nat.mul_le_mul h1 he
        unfold encL
        omega
      trLen := by
        intro b hb
        have h1 := flatMap_len3 trE_len3 b
        have h2 := flatMap_len3 tr_len b
        omega
      rowsLen := by
        intro wd b hb hw
        have h2 := flatMap_len3 tr_len b
        have h1 := (rowsT_len wd _ (b.flatMap tr) (Nat.le_refl _)).1
        omega
      rowsPLen := by
        intro wd hw
        obtain ⟨h1, h2⟩ := enc_rows_len wd hlen
        rw [rows_eq h256] at h1 h2
        refine ⟨by omega, fun r hr => ?_, by omega⟩
        have := mem_sum hr
        omega
      decLen := by
        intro b e hb he
        have h1 := decL_len b e
        have h2 : b.length * e.length ≤ 5000 * 2 := Nat.mul_le_mul hb he
        omega
      rowLen := by
        intro b e hb he
        have h1 := decRow_len e b
        omega
      linesLen := by
        have h1 := (linesL_sum (bodyP ns)).2
        refine ⟨by omega, fun l hl => ⟨?_, fun c hc => ?_⟩⟩
        · have := linesL_len hl; omega
        · have := linesL_mem hl c hc
          exact ⟨hok c this.1, this.2⟩
      encParts := by
        intro wd e hw he
        rw [foldT_flat (fun each => encL each wd e)]
        unfold encL
        rw [drawn_linesE]
        generalize drawnP ns = ps
        induction ps with
        | nil => rfl
        | cons p r ih => rw [List.flatMap_cons, ih, List.flatMap_cons, List.flatMap_append, List.flatMap_append]
      encRows := by
        intro wd e hw
        unfold encL
        rw [rows_eq h256, List.flatMap_def]
      encLast := by
        intro wd e hw he
        have hr : rowsP wd (bodyP ns) ≠ [] := by
          unfold rowsP
          cases hq : linesL (bodyP ns) with
          | nil => exact absurd hq hne
          | cons l r =>
            rw [List.flatMap_cons]
            intro z
            exact rowsT_ne wd _ (List.append_eq_nil_iff.mp z).1
        unfold encL
        rw [rows_eq h256]
        constructor
        · rcases List.eq_nil_or_concat (rowsP wd (bodyP ns)) with z | ⟨q, c, z⟩
          · exact absurd z hr
          · rw [z, List.concat_eq_append, List.flatMap_append, List.flatMap_singleton]
            rcases he with rfl | rfl
            · simp
            · have : List.flatMap (fun x => x ++ [13, 10]) q ++ (c ++ [13, 10]) = (List.flatMap (fun x => x ++ [13, 10]) q ++ (c ++ [13])) ++ [10] := by simp
              rw [this]; simp
        · intro c hc
          obtain ⟨r, hr, hc⟩ := List.mem_flatMap.mp hc
          rcases List.mem_append.mp hc with q | q
          · exact (hrow wd r hr c q).1
          · rcases he with rfl | rfl
            · rw [List.mem_singleton.mp q]; exact ok10
            · simp only [List.mem_cons, List.not_mem_nil, or_false] at q
              rcases q with rfl | rfl
              · exact ok13
              · exact ok10
      decEnc := by
        intro wd e m hw he
        unfold decL encL
        rw [rows_eq h256, lines_rows he _ fun r hr c hc => (hrow wd r hr c hc).2]
        unfold rowsP
        generalize linesL (bodyP ns) = ls at hlines
        induction ls with
        | nil => rfl
        | cons l r ih =>
          rw [List.flatMap_cons, List.flatMap_append, dec_rows hw l.length l (Nat.le_refl _) (hlines l (by simp)), List.map_cons, List.flatten_cons]
          rw [ih fun l hl => hlines l (by simp [hl])]
      decParts := by
        intro e
        rw [foldT_flat (fun each => decL each e)]
        unfold decL
        rw [drawn_lines]
        generalize drawnP ns = ps
        induction ps with
        | nil => rfl
        | cons p r ih => rw [List.flatMap_cons, ih, List.flatMap_cons, List.flatMap_append] }
end Mine

theorem PySem.Challenge.cw_oc0117_01_holds : PySem.Challenge.rw_oc0117_01.Holds := by
  exact Mine.holds_of_plain Mine.law_plain
