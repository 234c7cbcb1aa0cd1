import PyProof.Rows.All
import Wide.All
import OpenK.AllK
import Wide.FinOn
import PySem.Challenge.RW_tr0005_01
set_option Elab.async false
set_option linter.all false

/-! PlA -/
section
set_option maxRecDepth 100000
namespace Mine
open PySem PySem.W PyProof.Rows PySem.Calls PySem.Spec

/-! Pure values, and how a heap bears them. -/
inductive PV where
  | none
  | bool (b : Bool)
  | int (i : Int)
  | flt (x : UInt64)
  | str (x : Str)
  | list (l : List PV)
  | tup (l : List PV)
  /-- a list that its frame still changes -/
  | hot (l : List PV)
  /-- a text that is this very object -/
  | tstr (x : Str) (t : Tok)

noncomputable def PV.isHot : PV → Bool
  | .hot _ => true
  | _ => false

noncomputable abbrev Keep (h h' : Heap) : Prop := ∀ b o, h.get? b = some o → h'.get? b = some o
/-- all objects but the hot ones stand -/
noncomputable abbrev KeepBut (Z : Addr → Prop) (h h' : Heap) : Prop := ∀ b o, ¬ Z b → h.get? b = some o → h'.get? b = some o

mutual
inductive Rel (h : Heap) (Z : Addr → Prop) : PV → Value → Prop
  | none : Rel h Z .none .none
  | bool (b : Bool) : Rel h Z (.bool b) (.bool b)
  | int (i : Int) (t : Tok) : Rel h Z (.int i) (.int i t)
  | flt (x : UInt64) (t : Tok) : Rel h Z (.flt x) (.float x t)
  | str (x : Str) (t : Tok) : Rel h Z (.str x) (.str x t)
  | tstr (x : Str) (t : Tok) : Rel h Z (.tstr x t) (.str x t)
  | list {a : Addr} {vs : List Value} {l : List PV} : ¬ Z a → h.PlainList a vs.toArray → RelL h Z l vs → Rel h Z (.list l) (.ref a)
  | tup {a : Addr} {vs : List Value} {l : List PV} : ¬ Z a → h.IsTuple a vs.toArray → RelL h Z l vs → Rel h Z (.tup l) (.ref a)
inductive RelL (h : Heap) (Z : Addr → Prop) : List PV → List Value → Prop
  | nil : RelL h Z [] []
  | cons {p : PV} {v : Value} {ps : List PV} {vs : List Value} : Rel h Z p v → RelL h Z ps vs → RelL h Z (p :: ps) (v :: vs)
end

theorem Plain.at' {h h' : Heap} {a : Addr} {xs : Array Value} (x : h.PlainList a xs) (e : ∀ o, h.get? a = some o → h'.get? a = some o) : h'.PlainList a xs :=
  let ⟨n, ho⟩ := x; ⟨n, e _ ho⟩
theorem IsList.at' {h h' : Heap} {a : Addr} {xs : Array Value} (x : h.IsList a xs) (e : ∀ o, h.get? a = some o → h'.get? a = some o) : h'.IsList a xs :=
  let ⟨o, ho, r⟩ := x; ⟨o, e o ho, r⟩
theorem IsTuple.at' {h h' : Heap} {a : Addr} {xs : Array Value} (x : h.IsTuple a xs) (e : ∀ o, h.get? a = some o → h'.get? a = some o) : h'.IsTuple a xs :=
  let ⟨o, ho, r⟩ := x; ⟨o, e o ho, r⟩

mutual
theorem Rel.but {h h' : Heap} {Z : Addr → Prop} (k : KeepBut Z h h') : ∀ {p : PV} {v : Value}, Rel h Z p v → Rel h' Z p v
  | _, _, .none => .none
  | _, _, .bool b => .bool b
  | _, _, .int i t => .int i t
  | _, _, .flt x t => .flt x t
  | _, _, .str x t => .str x t
  | _, _, .tstr x t => .tstr x t
  | _, _, .list z l r => .list z (Plain.at' l fun o e => k _ o z e) (RelL.but k r)
  | _, _, .tup z l r => .tup z (IsTuple.at' l fun o e => k _ o z e) (RelL.but k r)
theorem RelL.but {h h' : Heap} {Z : Addr → Prop} (k : KeepBut Z h h') : ∀ {ps : List PV} {vs : List Value}, RelL h Z ps vs → RelL h' Z ps vs
  | _, _, .nil => .nil
  | _, _, .cons a r => .cons (Rel.but k a) (RelL.but k r)
end
theorem Rel.keep {h h' : Heap} {Z : Addr → Prop} (k : Keep h h') {p : PV} {v : Value} (r : Rel h Z p v) : Rel h' Z p v := r.but fun b o _ e => k b o e
theorem RelL.keep {h h' : Heap} {Z : Addr → Prop} (k : Keep h h') {p : List PV} {v : List Value} (r : RelL h Z p v) : RelL h' Z p v := r.but fun b o _ e => k b o e

mutual
/-- fewer hot ones, or hot ones that are no objects yet -/
theorem Rel.zone {h : Heap} {Z Z' : Addr → Prop} (k : ∀ a o, h.get? a = some o → Z' a → Z a) : ∀ {p : PV} {v : Value}, Rel h Z p v → Rel h Z' p v
  | _, _, .none => .none
  | _, _, .bool b => .bool b
  | _, _, .int i t => .int i t
  | _, _, .flt x t => .flt x t
  | _, _, .str x t => .str x t
  | _, _, .tstr x t => .tstr x t
  | _, _, .list z l r => .list (fun q => z (k _ _ l.choose_spec q)) l (RelL.zone k r)
  | _, _, .tup z l r => .tup (fun q => z (k _ l.choose l.choose_spec.1 q)) l (RelL.zone k r)
theorem RelL.zone {h : Heap} {Z Z' : Addr → Prop} (k : ∀ a o, h.get? a = some o → Z' a → Z a) : ∀ {ps : List PV} {vs : List Value}, RelL h Z ps vs → RelL h Z' ps vs
  | _, _, .nil => .nil
  | _, _, .cons a r => .cons (Rel.zone k a) (RelL.zone k r)
end

theorem RelL.length {h : Heap} {Z : Addr → Prop} : ∀ {ps : List PV} {vs : List Value}, RelL h Z ps vs → ps.length = vs.length
  | _, _, .nil => rfl
  | _, _, .cons _ r => congrArg (· + 1) r.length
theorem RelL.append {h : Heap} {Z : Addr → Prop} : ∀ {ps qs : List PV} {vs us : List Value}, RelL h Z ps vs → RelL h Z qs us → RelL h Z (ps ++ qs) (vs ++ us)
  | _, _, _, _, .nil, y => y
  | _, _, _, _, .cons a r, y => .cons a (r.append y)
theorem RelL.get {h : Heap} {Z : Addr → Prop} : ∀ {ps : List PV} {vs : List Value}, RelL h Z ps vs → ∀ {i : Nat} {p : PV}, ps[i]? = some p → ∃ v, vs[i]? = some v ∧ Rel h Z p v
  | _, _, .nil, i, _, e => by simp at e
  | _, _, .cons a r, 0, p, e => by simp at e; subst e; exact ⟨_, rfl, a⟩
  | _, _, .cons a r, i + 1, p, e => by simpa using r.get (i := i) (by simpa using e)
theorem RelL.getV {h : Heap} {Z : Addr → Prop} : ∀ {ps : List PV} {vs : List Value}, RelL h Z ps vs → ∀ {i : Nat} {v : Value}, vs[i]? = some v → ∃ p, ps[i]? = some p ∧ Rel h Z p v
  | _, _, .nil, i, _, e => by simp at e
  | _, _, .cons a r, 0, p, e => by simp at e; subst e; exact ⟨_, rfl, a⟩
  | _, _, .cons a r, i + 1, p, e => by simpa using r.getV (i := i) (by simpa using e)
theorem RelL.one {h : Heap} {Z : Addr → Prop} {p : PV} {v : Value} (r : Rel h Z p v) : RelL h Z [p] [v] := .cons r .nil

theorem RelL.inv {h : Heap} {Z : Addr → Prop} {p : PV} {ps : List PV} {vs : List Value} (r : RelL h Z (p :: ps) vs) : ∃ v us, vs = v :: us ∧ Rel h Z p v ∧ RelL h Z ps us := by
  cases r with
  | cons a b => exact ⟨_, _, rfl, a, b⟩
theorem RelL.nilInv {h : Heap} {Z : Addr → Prop} {vs : List Value} (r : RelL h Z [] vs) : vs = [] := by cases r; rfl
theorem Rel.intInv {h : Heap} {Z : Addr → Prop} {i : Int} {v : Value} (r : Rel h Z (.int i) v) : ∃ t, v = .int i t := by cases r; exact ⟨_, rfl⟩
theorem Rel.strInv {h : Heap} {Z : Addr → Prop} {x : Str} {v : Value} (r : Rel h Z (.str x) v) : ∃ t, v = .str x t := by cases r; exact ⟨_, rfl⟩
theorem Rel.boolInv {h : Heap} {Z : Addr → Prop} {b : Bool} {v : Value} (r : Rel h Z (.bool b) v) : v = .bool b := by cases r; rfl
theorem lenS {α : Type} {l : List α} {n : Nat} (h : l.length = n + 1) : ∃ a r, l = a :: r ∧ r.length = n := by
  cases l with
  | nil => cases h
  | cons a r => exact ⟨a, r, rfl, Nat.succ.inj h⟩
theorem len0 {α : Type} {l : List α} (h : l.length = 0) : l = [] := List.eq_nil_of_length_eq_zero h
theorem len1 {α : Type} {l : List α} (h : l.length = 1) : ∃ a, l = [a] := by
  obtain ⟨a, r, rfl, k⟩ := lenS h
  exact ⟨a, by rw [len0 k]⟩
theorem len2 {α : Type} {l : List α} (h : l.length = 2) : ∃ a b, l = [a, b] := by
  obtain ⟨a, r, rfl, k⟩ := lenS h
  obtain ⟨b, rfl⟩ := len1 k
  exact ⟨a, b, rfl⟩
theorem len3 {α : Type} {l : List α} (h : l.length = 3) : ∃ a b d, l = [a, b, d] := by
  obtain ⟨a, r, rfl, k⟩ := lenS h
  obtain ⟨b, d, rfl⟩ := len2 k
  exact ⟨a, b, d, rfl⟩
theorem len4 {α : Type} {l : List α} (h : l.length = 4) : ∃ a b d e, l = [a, b, d, e] := by
  obtain ⟨a, r, rfl, k⟩ := lenS h
  obtain ⟨b, d, e, rfl⟩ := len3 k
  exact ⟨a, b, d, e, rfl⟩

/-! The context of a run. -/
structure Cx where
  prog : Program
  w : World
  p : Program
  loose : List Str
  mean : ExcName → Option Value
  mg : Str → Option Value
  mb : Str → Option Value

noncomputable abbrev Cx.M (c : Cx) : Model := model c.prog c.w
noncomputable def Cx.Base (c : Cx) (h : Heap) : Prop := Top c.p c.loose c.mean c.mg c.mb h
theorem Cx.Base.keep {c : Cx} {h h' : Heap} (b : c.Base h) (k : Keep h h') : c.Base h' := Top.keeps b k

structure Good (n : Nat) (A : Around) : Prop where
  handled : A.handled = none
  depth : A.depth + n < 900
  units : A.units + 3 * n < 1000

noncomputable abbrev PEnv := List (Str × PV)

/-- the name x holds v in env -/
noncomputable def Holds (env : Env) (h : Heap) (x : Str) (v : Value) : Prop :=
  (env.kindOf x = some .local ∧ ∃ m, h.Ns env.locals m ∧ m x = some v) ∨
  ((env.kindOf x = some .cell ∨ env.kindOf x = some .free) ∧ ∃ a, env.cells.lookup x = some a ∧ h.IsCell a (some v))

theorem Holds.keep {env : Env} {h h' : Heap} {x : Str} {v : Value} (k : Keep h h') : Holds env h x v → Holds env h' x v
  | .inl ⟨a, m, n, e⟩ => .inl ⟨a, m, n.keeps k, e⟩
  | .inr ⟨a, c, e, i⟩ => .inr ⟨a, c, e, i.keeps k⟩

structure EnvOk (env : Env) : Prop where
  kind : env.scope.kind = .function
  globals : env.globals = mainGlobals
  builtins : env.builtins = builtinsNs
  inj : ∀ x y a, env.cells.lookup x = some a → env.cells.lookup y = some a → x = y

structure FrameOk (env : Env) (h : Heap) (Z : Addr → Prop) (ρ : PEnv) : Prop where
  ok : EnvOk env
  vars : ∀ x p, ρ.lookup x = some p → p.isHot = false → ∃ v, Holds env h x v ∧ Rel h Z p v

theorem FrameOk.keep {env : Env} {h h' : Heap} {Z : Addr → Prop} {ρ : PEnv} (F : FrameOk env h Z ρ) (k : Keep h h') : FrameOk env h' Z ρ :=
  ⟨F.ok, fun x p e q => let ⟨v, a, r⟩ := F.vars x p e q; ⟨v, a.keep k, r.keep k⟩⟩
theorem FrameOk.weak {env : Env} {h : Heap} {Z : Addr → Prop} {ρ ρ' : PEnv} (F : FrameOk env h Z ρ) (k : ∀ x p, ρ'.lookup x = some p → ρ.lookup x = some p) : FrameOk env h Z ρ' :=
  ⟨F.ok, fun x p e q => F.vars x p (k x p e) q⟩

noncomputable abbrev ZOk (Z : Addr → Prop) (h : Heap) : Prop := ∀ a, Z a → ∃ o, h.get? a = some o

/-- the tree gives the value p -/
noncomputable def Gv (c : Cx) (A : Around) (Z : Addr → Prop) (s : Shared) (t : Sem Value) (p : PV) : Prop :=
  ∀ (Q : Value → Shared → Prop) (E : Value → Shared → Prop),
    (∀ v h' tk, Keep s.heap h' → Rel h' Z p v → Q v { s with heap := h', toks := tk }) → wpAny c.M A t Q E s
noncomputable def Gb (c : Cx) (A : Around) (s : Shared) (t : Sem Bool) (b : Bool) : Prop :=
  ∀ (Q : Bool → Shared → Prop) (E : Value → Shared → Prop),
    (∀ h' tk, Keep s.heap h' → Q b { s with heap := h', toks := tk }) → wpAny c.M A t Q E s
noncomputable def Gl (c : Cx) (A : Around) (Z : Addr → Prop) (s : Shared) (t : Sem (List Value)) (ps : List PV) : Prop :=
  ∀ (Q : List Value → Shared → Prop) (E : Value → Shared → Prop),
    (∀ vs h' tk, Keep s.heap h' → RelL h' Z ps vs → Q vs { s with heap := h', toks := tk }) → wpAny c.M A t Q E s

/-- e has the value p in env under ρ -/
noncomputable def EV (c : Cx) (n : Nat) (env : Env) (ρ : PEnv) (e : Expr) (p : PV) : Prop :=
  ∀ (A : Around) (s : Shared) (Z : Addr → Prop), Good n A → c.Base s.heap → FrameOk env s.heap Z ρ → ZOk Z s.heap → Gv c A Z s (eval e env) p
/-- the test e comes out as b -/
noncomputable def TV (c : Cx) (n : Nat) (env : Env) (ρ : PEnv) (e : Expr) (b : Bool) : Prop :=
  ∀ (A : Around) (s : Shared) (Z : Addr → Prop), Good n A → c.Base s.heap → FrameOk env s.heap Z ρ → ZOk Z s.heap → Gb c A s (isTrue e env (eval e env)) b
noncomputable def EVL (c : Cx) (n : Nat) (env : Env) (ρ : PEnv) : List Expr → List PV → Prop
  | [], [] => True
  | e :: es, p :: ps => EV c n env ρ e p ∧ EVL c n env ρ es ps
  | _, _ => False

theorem ZOk.keep {Z : Addr → Prop} {h h' : Heap} (z : ZOk Z h) (k : Keep h h') : ZOk Z h' := fun a q => let ⟨o, e⟩ := z a q; ⟨o, k a o e⟩

end Mine
end

/-! PlB -/
section
set_option maxRecDepth 100000
namespace Mine
open PySem PySem.W PyProof.Rows PySem.Calls PySem.Spec

theorem Keep.refl {h : Heap} : Keep h h := fun _ _ e => e
theorem Keep.trans {h h' h'' : Heap} (a : Keep h h') (b : Keep h' h'') : Keep h h'' := fun x o e => b x o (a x o e)

section
variable {c : Cx} {n : Nat} {env : Env} {ρ : PEnv}

theorem EV.cint {i : Int} {k : Nat} {pos : Pos} : EV c n env ρ (.Constant (.int i) k pos) (.int i) := fun A s Z g b F z Q E h =>
  wpAny_Constant_int (h _ s.heap _ Keep.refl (.int _ _))
theorem EV.cstr {x : Str} {k : Nat} {pos : Pos} : EV c n env ρ (.Constant (.str x) k pos) (.str x) := fun A s Z g b F z Q E h =>
  Constant_str (h _ s.heap _ Keep.refl (.str _ _))
theorem EV.cbool {x : Bool} {k : Nat} {pos : Pos} : EV c n env ρ (.Constant (.bool x) k pos) (.bool x) := fun A s Z g b F z Q E h =>
  Constant_bool (h _ s.heap s.toks Keep.refl (.bool _))
theorem EV.cnone {k : Nat} {pos : Pos} : EV c n env ρ (.Constant .none k pos) .none := fun A s Z g b F z Q E h =>
  Constant_none (h _ s.heap s.toks Keep.refl .none)
theorem EV.cflt {x : UInt64} {k : Nat} {pos : Pos} : EV c n env ρ (.Constant (.float x) k pos) (.flt x) := fun A s Z g b F z Q E h =>
  fun _ _ _ => h _ s.heap (s.toks + 1) Keep.refl (.flt _ s.toks)

theorem EV.name {x : Str} {pos : Pos} {p : PV} (e : ρ.lookup x = some p) (hh : p.isHot = false := by rfl) (hd : (x == ("__debug__" : Str)) = false := by decide) (hq : (x == ("__classdict__" : Str)) = false := by decide) :
    EV c n env ρ (.Name x pos) p := by
  intro A s Z g b F z Q E h
  obtain ⟨v, hv, r⟩ := F.vars x p e hh
  refine wpAny_Name ?_ hd
  rcases hv with ⟨hk, m, hn, hm⟩ | ⟨hk, a, hc, hi⟩
  · exact wpAny_loadName_local F.ok.kind hk hn hm (h v s.heap s.toks Keep.refl r)
  · rcases hk with hk | hk
    · exact wpAny_loadName_cell F.ok.kind hk hc hi (h v s.heap s.toks Keep.refl r)
    · exact wpAny_loadName_free F.ok.kind hk hc hi (h v s.heap s.toks Keep.refl r) hq

/-! Two parts, one operation. -/
noncomputable def BinOK (c : Cx) (n : Nat) (op : Operator) (pa pb p : PV) : Prop :=
  ∀ (A : Around) (s : Shared) (Z : Addr → Prop) (va vb : Value), Good n A → c.Base s.heap → ZOk Z s.heap → Rel s.heap Z pa va → Rel s.heap Z pb vb → Gv c A Z s (binaryOp op va vb) p
noncomputable def CmpOK (c : Cx) (n : Nat) (op : CmpOp) (pa pb : PV) (r : Bool) : Prop :=
  ∀ (A : Around) (s : Shared) (Z : Addr → Prop) (va vb : Value), Good n A → c.Base s.heap → ZOk Z s.heap → Rel s.heap Z pa va → Rel s.heap Z pb vb → Gv c A Z s (compareOp op va vb) (.bool r)
noncomputable def TruthOK (c : Cx) (n : Nat) (p : PV) (r : Bool) : Prop :=
  ∀ (A : Around) (s : Shared) (Z : Addr → Prop) (v : Value), Good n A → c.Base s.heap → ZOk Z s.heap → Rel s.heap Z p v → Gb c A s (truthy v) r
noncomputable def SubOK (c : Cx) (n : Nat) (value slice : Expr) (pa pb p : PV) : Prop :=
  ∀ (A : Around) (s : Shared) (Z : Addr → Prop) (va vb : Value), Good n A → c.Base s.heap → ZOk Z s.heap → Rel s.heap Z pa va → Rel s.heap Z pb vb → Gv c A Z s (subscriptTail value slice va vb) p

theorem EV.two {l r : Expr} {pa pb : PV} {A : Around} {s : Shared} {Z : Addr → Prop} {α : Type} {f : Value → Value → Sem α} {Q : α → Shared → Prop} {E : Value → Shared → Prop}
    (hl : EV c n env ρ l pa) (hr : EV c n env ρ r pb) (g : Good n A) (b : c.Base s.heap) (F : FrameOk env s.heap Z ρ) (z : ZOk Z s.heap)
    (h : ∀ va vb h' tk, Keep s.heap h' → Rel h' Z pa va → Rel h' Z pb vb → wpAny c.M A (f va vb) Q E { s with heap := h', toks := tk }) :
    wpAny c.M A (eval l env) (fun a s₁ => wpAny c.M A (eval r env) (fun b s₂ => wpAny c.M A (f a b) Q E s₂) E s₁) E s := by
  refine hl A s Z g b F z _ _ fun va h1 t1 k1 r1 => ?_
  refine hr A _ Z g (b.keep k1) (F.keep k1) (z.keep k1) _ _ fun vb h2 t2 k2 r2 => ?_
  exact h va vb h2 t2 (k1.trans k2) (r1.keep k2) r2

theorem EV.bin {l r : Expr} {op : Operator} {pos : Pos} {pa pb p : PV} (hl : EV c n env ρ l pa) (hr : EV c n env ρ r pb) (ho : BinOK c n op pa pb p) : EV c n env ρ (.BinOp l op r pos) p := by
  intro A s Z g b F z Q E h
  refine wpAny_BinOp (EV.two hl hr g b F z fun va vb h' tk k ra rb => ?_)
  exact ho A _ Z va vb g (b.keep k) (z.keep k) ra rb _ _ fun v h2 t2 k2 r2 => h v h2 t2 (k.trans k2) r2
theorem EV.cmp {l r : Expr} {op : CmpOp} {pos : Pos} {pa pb : PV} {x : Bool} (hl : EV c n env ρ l pa) (hr : EV c n env ρ r pb) (ho : CmpOK c n op pa pb x)
    (hm : behindInMarks op r = false := by with_unfolding_all rfl) : EV c n env ρ (.Compare l [op] [r] pos) (.bool x) := by
  intro A s Z g b F z Q E h
  refine wpAny_Compare1 (EV.two hl hr g b F z fun va vb h' tk k ra rb => ?_) hm
  exact ho A _ Z va vb g (b.keep k) (z.keep k) ra rb _ _ fun v h2 t2 k2 r2 => h v h2 t2 (k.trans k2) r2
theorem TV.cmp {l r : Expr} {op : CmpOp} {pos : Pos} {pa pb : PV} {x : Bool} (hl : EV c n env ρ l pa) (hr : EV c n env ρ r pb) (ho : CmpOK c n op pa pb x)
    (hm : behindInMarks op r = false := by with_unfolding_all rfl) : TV c n env ρ (.Compare l [op] [r] pos) x := by
  intro A s Z g b F z Q E h
  refine wpAny_isTrue_Compare1 (EV.two hl hr g b F z fun va vb h' tk k ra rb => ?_) hm
  refine ho A _ Z va vb g (b.keep k) (z.keep k) ra rb _ _ fun v h2 t2 k2 r2 => ?_
  cases r2
  exact wpAny_truthy_bool (h h2 t2 (k.trans k2))
theorem EV.sub {l r : Expr} {pos : Pos} {pa pb p : PV} (hl : EV c n env ρ l pa) (hr : EV c n env ρ r pb) (ho : SubOK c n l r pa pb p) : EV c n env ρ (.Subscript l r pos) p := by
  intro A s Z g b F z Q E h
  refine Subscript_ (EV.two hl hr g b F z fun va vb h' tk k ra rb => ?_)
  exact ho A _ Z va vb g (b.keep k) (z.keep k) ra rb _ _ fun v h2 t2 k2 r2 => h v h2 t2 (k.trans k2) r2

/-! Tests. -/
theorem TV.plain {e : Expr} {p : PV} {x : Bool} (he : EV c n env ρ e p) (ht : TruthOK c n p x)
    (hp : isTrue e env (eval e env) = (do let v ← eval e env; standAt e.pos; holding [v] (truthy v)) := by rfl) : TV c n env ρ e x := by
  intro A s Z g b F z Q E h
  refine isTrue_plain ?_ hp
  refine he A s Z g b F z _ _ fun v h1 t1 k1 r1 => ?_
  exact ht A _ Z v g (b.keep k1) (z.keep k1) r1 _ _ fun h2 t2 k2 => h h2 t2 (k1.trans k2)
theorem TV.not {e : Expr} {pos : Pos} {x : Bool} (he : TV c n env ρ e x) : TV c n env ρ (.UnaryOp .Not e pos) (!x) := by
  intro A s Z g b F z Q E h
  exact isTrue_not (he A s Z g b F z _ _ fun h1 t1 k1 => h h1 t1 k1)
theorem TV.and_nil {pos : Pos} : TV c n env ρ (.BoolOp .And [] pos) true := fun A s Z g b F z Q E h => isTrue_and_nil (h s.heap s.toks Keep.refl)
theorem TV.or_nil {pos : Pos} : TV c n env ρ (.BoolOp .Or [] pos) false := fun A s Z g b F z Q E h => isTrue_or_nil (h s.heap s.toks Keep.refl)
theorem TV.and_whole {es : List Expr} {pos : Pos} {w w' : Sem Value} : isTrue (.BoolOp .And es pos) env w = isTrue (.BoolOp .And es pos) env w' := rfl
theorem TV.and {e : Expr} {es : List Expr} {pos : Pos} {x y : Bool} (he : TV c n env ρ e x) (hr : x = true → TV c n env ρ (.BoolOp .And es pos) y) : TV c n env ρ (.BoolOp .And (e :: es) pos) (x && y) := by
  intro A s Z g b F z Q E h
  refine isTrue_and (he A s Z g b F z _ _ fun h1 t1 k1 => ?_)
  cases x with
  | false => exact h h1 t1 k1
  | true => exact hr rfl A _ Z g (b.keep k1) (F.keep k1) (z.keep k1) _ _ fun h2 t2 k2 => h h2 t2 (k1.trans k2)
theorem TV.or {e : Expr} {es : List Expr} {pos : Pos} {x y : Bool} (he : TV c n env ρ e x) (hr : x = false → TV c n env ρ (.BoolOp .Or es pos) y) : TV c n env ρ (.BoolOp .Or (e :: es) pos) (x || y) := by
  intro A s Z g b F z Q E h
  refine isTrue_or (he A s Z g b F z _ _ fun h1 t1 k1 => ?_)
  cases x with
  | true => exact h h1 t1 k1
  | false => exact hr rfl A _ Z g (b.keep k1) (F.keep k1) (z.keep k1) _ _ fun h2 t2 k2 => h h2 t2 (k1.trans k2)
theorem TV.chain2 {l r₁ r₂ : Expr} {op₁ op₂ : CmpOp} {pos : Pos} {pa pb pc : PV} {x y : Bool} (hl : EV c n env ρ l pa) (hr : EV c n env ρ r₁ pb) (h3 : EV c n env ρ r₂ pc)
    (ho : CmpOK c n op₁ pa pb x) (ho2 : CmpOK c n op₂ pb pc y) (hm : lastMarks [op₁, op₂] [r₁, r₂] = false := by with_unfolding_all rfl) :
    TV c n env ρ (.Compare l [op₁, op₂] [r₁, r₂] pos) (x && y) := by
  intro A s Z g b F z Q E h
  refine isTrue_chain (hl A s Z g b F z _ _ fun va h1 t1 k1 r1 => ?_) hm
  refine test_link (hr A _ Z g (b.keep k1) (F.keep k1) (z.keep k1) _ _ fun vb h2 t2 k2 r2 => ?_)
  refine ho A _ Z va vb g ((b.keep k1).keep k2) ((z.keep k1).keep k2) (r1.keep k2) r2 _ _ fun v h3' t3 k3 r3 => ?_
  cases r3
  refine wpAny_truthy_bool ?_
  cases x with
  | false => exact h h3' t3 ((k1.trans k2).trans k3)
  | true =>
    refine test_last (h3 A _ Z g (((b.keep k1).keep k2).keep k3) (((F.keep k1).keep k2).keep k3) (((z.keep k1).keep k2).keep k3) _ _ fun vc h4 t4 k4 r4 => ?_)
    refine ho2 A _ Z vb vc g ((((b.keep k1).keep k2).keep k3).keep k4) ((((z.keep k1).keep k2).keep k3).keep k4) ((r2.keep k3).keep k4) r4 _ _ fun v h5 t5 k5 r5 => ?_
    cases r5
    exact wpAny_truthy_bool (h h5 t5 ((((k1.trans k2).trans k3).trans k4).trans k5))

/-! Choices. -/
theorem EV.ifexp {t a o : Expr} {pos : Pos} {x : Bool} {p : PV} (ht : TV c n env ρ t x) (ha : x = true → EV c n env ρ a p) (ho : x = false → EV c n env ρ o p) : EV c n env ρ (.IfExp t a o pos) p := by
  intro A s Z g b F z Q E h
  refine IfExp_ (ht A s Z g b F z _ _ fun h1 t1 k1 => ?_)
  cases x with
  | true => exact ha rfl A _ Z g (b.keep k1) (F.keep k1) (z.keep k1) _ _ fun v h2 t2 k2 r => h v h2 t2 (k1.trans k2) r
  | false => exact ho rfl A _ Z g (b.keep k1) (F.keep k1) (z.keep k1) _ _ fun v h2 t2 k2 r => h v h2 t2 (k1.trans k2) r
theorem EV.and2 {e₁ e₂ : Expr} {pos : Pos} {x y : Bool} (h1 : EV c n env ρ e₁ (.bool x)) (h2 : x = true → EV c n env ρ e₂ (.bool y)) : EV c n env ρ (.BoolOp .And [e₁, e₂] pos) (.bool (x && y)) := by
  intro A s Z g b F z Q E h
  refine BoolOp_and (h1 A s Z g b F z _ _ fun v h3 t1 k1 r1 => ?_)
  cases r1
  refine wpAny_truthy_bool ?_
  cases x with
  | false => exact h _ h3 t1 k1 (.bool _)
  | true => exact BoolOp_one (h2 rfl A _ Z g (b.keep k1) (F.keep k1) (z.keep k1) _ _ fun v h2 t2 k2 r => h v h2 t2 (k1.trans k2) r)
theorem EV.neg {e : Expr} {pos : Pos} {i : Int} (he : EV c n env ρ e (.int i)) : EV c n env ρ (.UnaryOp .USub e pos) (.int (-i)) := by
  intro A s Z g b F z Q E h
  refine UnaryOp_ (he A s Z g b F z _ _ fun v h1 t1 k1 r1 => ?_)
  cases r1
  exact neg_int (h _ h1 _ k1 (.int _ _))

/-! Displays. -/
theorem EVL.spliced {pos : Pos} : ∀ {es : List Expr} {ps : List PV}, EVL c n env ρ es ps → (es.all fun e => !isStarred e) = true →
    ∀ {A : Around} {s : Shared} {Z : Addr → Prop}, Good n A → c.Base s.heap → FrameOk env s.heap Z ρ → ZOk Z s.heap → Gl c A Z s (PySem.spliced (backTo pos (starEach es env))) ps
  | [], [], _, _, A, s, Z, g, b, F, z, Q, E, h => spliced_nil (h [] s.heap s.toks Keep.refl .nil)
  | e :: es, p :: ps, ⟨he, hes⟩, hs, A, s, Z, g, b, F, z, Q, E, h => by
    have hs' : isStarred e = false ∧ (es.all fun e => !isStarred e) = true := by simpa using hs
    have e1 : starEach (e :: es) env = (false, eval e env) :: starEach es env := by
      cases e <;> first | rfl | (exfalso; simp [isStarred] at hs')
    rw [e1]
    show wpAny _ _ (PySem.spliced ((false, eval e env) :: backTo pos (starEach es env))) _ _ _
    refine spliced_cons (he A s Z g b F z _ _ fun v h1 t1 k1 r1 => ?_)
    exact EVL.spliced hes hs'.2 g (b.keep k1) (F.keep k1) (z.keep k1) _ _ fun vs h2 t2 k2 r2 => h (v :: vs) h2 t2 (k1.trans k2) (.cons (r1.keep k2) r2)
  | [], _ :: _, h, _, _, _, _, _, _, _, _, _, _, _ => h.elim
  | _ :: _, [], h, _, _, _, _, _, _, _, _, _, _, _ => h.elim

theorem not_hot_new {Z : Addr → Prop} {h : Heap} (z : ZOk Z h) : ¬ Z h.objs.size := fun q => by
  obtain ⟨o, e⟩ := z _ q
  exact Nat.lt_irrefl _ (Heap.lt_size e)

theorem Gv.newList {A : Around} {s : Shared} {Z : Addr → Prop} {ps : List PV} {vs : List Value} (z : ZOk Z s.heap) (r : RelL s.heap Z ps vs) (hsz : vs.length ≤ sizeLine) : Gv c A Z s (newList vs) (.list ps) := by
  intro Q E h
  refine wpAny_newObj_type (h _ _ s.toks (fun b o e => Heap.get?_push_of_some _ e) ?_) (by show vs.toArray.size ≤ sizeLine; rw [List.size_toArray]; exact hsz)
  exact .list (not_hot_new z) ⟨0, Heap.get?_push_size _ rfl⟩ (r.keep fun b o e => Heap.get?_push_of_some _ e)
theorem Gv.newTuple {A : Around} {s : Shared} {Z : Addr → Prop} {ps : List PV} {vs : List Value} (z : ZOk Z s.heap) (r : RelL s.heap Z ps vs) (hsz : vs.length ≤ sizeLine) : Gv c A Z s (newTuple vs) (.tup ps) := by
  intro Q E h
  refine wpAny_newObj_type (h _ _ s.toks (fun b o e => Heap.get?_push_of_some _ e) ?_) (by show vs.toArray.size ≤ sizeLine; rw [List.size_toArray]; exact hsz)
  exact .tup (not_hot_new z) ⟨_, Heap.get?_push_size _ rfl, rfl, 0, rfl⟩ (r.keep fun b o e => Heap.get?_push_of_some _ e)

theorem EV.list {es : List Expr} {pos : Pos} {ps : List PV} (h : EVL c n env ρ es ps) (hs : (es.all fun e => !isStarred e) = true := by rfl) (hz : ps.length ≤ sizeLine := by decide) : EV c n env ρ (.List es pos) (.list ps) := by
  intro A s Z g b F z Q E hq
  refine List_ (h.spliced hs g b F z _ _ fun vs h1 t1 k1 r1 => ?_)
  exact Gv.newList (z.keep k1) r1 (r1.length ▸ hz) _ _ fun v h2 t2 k2 r2 => hq v h2 t2 (k1.trans k2) r2
theorem EV.tuple {es : List Expr} {k : Nat} {pos : Pos} {ps : List PV} (h : EVL c n env ρ es ps) (hs : (es.all fun e => !isStarred e) = true := by rfl) (hz : ps.length ≤ sizeLine := by decide) : EV c n env ρ (.Tuple es k pos) (.tup ps) := by
  intro A s Z g b F z Q E hq
  refine Tuple_ (h.spliced hs g b F z _ _ fun vs h1 t1 k1 r1 => ?_)
  exact Gv.newTuple (z.keep k1) r1 (r1.length ▸ hz) _ _ fun v h2 t2 k2 r2 => hq v h2 t2 (k1.trans k2) r2
end
end Mine
end

/-! PlC -/
section
set_option maxRecDepth 100000
namespace Mine
open PySem PySem.W PyProof.Rows PySem.Calls PySem.Spec

section
variable {c : Cx} {n : Nat}

theorem Good.h {A : Around} (g : Good n A) : A.handled = none := g.handled
theorem Good.room {A : Around} (g : Good n A) : A.units + 65 < cLine := by
  have := g.units
  show A.units + 65 < 9900
  omega

theorem BinOK.add {a b : Int} : BinOK c n .Add (.int a) (.int b) (.int (a + b)) := by
  intro A s Z va vb g bs z ra rb Q E h
  cases ra; cases rb
  exact PyProof.Rows.add_int (h _ s.heap _ Keep.refl (.int _ _))
theorem BinOK.sub {a b : Int} : BinOK c n .Sub (.int a) (.int b) (.int (a - b)) := by
  intro A s Z va vb g bs z ra rb Q E h
  cases ra; cases rb
  exact PyProof.Rows.sub_int (h _ s.heap _ Keep.refl (.int _ _))
theorem BinOK.mul {a b : Int} (hm : IntMulOk a b) : BinOK c n .Mult (.int a) (.int b) (.int (a * b)) := by
  intro A s Z va vb g bs z ra rb Q E h
  cases ra; cases rb
  exact PyProof.Rows.mul_int (h _ s.heap _ Keep.refl (.int _ _)) hm
theorem BinOK.mod {a b : Int} (hb : b ≠ 0) : BinOK c n .Mod (.int a) (.int b) (.int (a.fmod b)) := by
  intro A s Z va vb g bs z ra rb Q E h
  cases ra; cases rb
  exact PyProof.Rows.mod_int hb (h _ s.heap _ Keep.refl (.int _ _))
theorem BinOK.fdiv {a b : Int} (hb : b ≠ 0) (hs : b.natAbs < 1073741824) : BinOK c n .FloorDiv (.int a) (.int b) (.int (a.fdiv b)) := by
  intro A s Z va vb g bs z ra rb Q E h
  cases ra; cases rb
  exact PyProof.Rows.floordiv_int hb (h _ s.heap _ Keep.refl (.int _ _)) (Or.inl (PyProof.noPylong_small hs))
theorem BinOK.pow {a b : Int} (hn : 0 ≤ b) (hsz : (Builtin.Int.intBits a : Int) * b ≤ 2 ^ 27) : BinOK c n .Pow (.int a) (.int b) (.int (a ^ b.toNat)) := by
  intro A s Z va vb g bs z ra rb Q E h
  cases ra; cases rb
  exact PyProof.Rows.pow_int hn hsz (h _ s.heap _ Keep.refl (.int _ _))
theorem BinOK.shr {a b : Int} (hn : 0 ≤ b) : BinOK c n .RShift (.int a) (.int b) (.int (a.fdiv (2 ^ b.toNat))) := by
  intro A s Z va vb g bs z ra rb Q E h
  cases ra; cases rb
  exact PyProof.Rows.rshift_int hn (h _ s.heap _ Keep.refl (.int _ _))
theorem BinOK.and {a b : Int} : BinOK c n .BitAnd (.int a) (.int b) (.int (Builtin.bitAnd a b)) := by
  intro A s Z va vb g bs z ra rb Q E h
  cases ra; cases rb
  exact PyProof.Rows.and_int (h _ s.heap _ Keep.refl (.int _ _))
theorem BinOK.cat {x y : Str} (hsz : x.length + y.length ≤ sizeLine) : BinOK c n .Add (.str x) (.str y) (.str (x ++ y)) := by
  intro A s Z va vb g bs z ra rb Q E h
  cases ra; cases rb
  exact PyProof.Rows.add_str (fun t tk => h _ s.heap tk Keep.refl (.str _ _)) hsz
theorem BinOK.lists {x y : List PV} (hsz : x.length + y.length ≤ sizeLine) : BinOK c n .Add (.list x) (.list y) (.list (x ++ y)) := by
  intro A s Z va vb g bs z ra rb Q E h
  cases ra with
  | list za la ra => cases rb with
    | list zb lb rb =>
      obtain ⟨m, ho⟩ := id la
      obtain ⟨m2, ho2⟩ := id lb
      rename_i a vs b ws
      have e : vs.toArray ++ ws.toArray = (vs ++ ws).toArray := by simp
      refine concat_meets ⟨_, ho, rfl⟩ ⟨_, ho2, rfl⟩ noFill_list_add seq_list_add PySem.F.slot_list_add PySem.F.entry_list_add (PySem.F.args_list_add_2 _ _)
        (list_addW a b vs.toArray ws.toArray m m2 none none #[] #[] (by have h1 := ra.length; have h2 := rb.length; simp only [List.size_toArray]; omega)) ⟨ho, ho2, ?_⟩
      rw [e]
      refine h _ _ _ (fun b o e => Heap.get?_push_of_some _ e) ?_
      exact .list (not_hot_new z) ⟨0, Heap.get?_push_size _ rfl⟩ ((ra.append rb).keep fun b o e => Heap.get?_push_of_some _ e)

/-- a written list, times an int -/
theorem EV.listMul {env : Env} {ρ : PEnv} {es : List Expr} {r : Expr} {p1 pos : Pos} {ps : List PV} {k : Int} (hl : EVL c n env ρ es ps) (hr : EV c n env ρ r (.int k))
    (h0 : 0 ≤ k) (hk : k < 2 ^ 63) (hz : ps.length * k.toNat ≤ 2 ^ 24) (hne : ps ≠ []) (hs : (es.all fun e => !isStarred e) = true := by rfl) (hz2 : ps.length ≤ sizeLine := by decide) :
    EV c n env ρ (.BinOp (.List es p1) .Mult r pos) (.list (List.replicate k.toNat ps).flatten) := by
  intro A s Z g b F z Q E h
  refine wpAny_BinOp (List_ (hl.spliced hs g b F z _ _ fun vs h1 t1 k1 r1 => ?_))
  have hvl : vs.length ≤ sizeLine := r1.length ▸ hz2
  refine wpAny_newObj_type ?_ (by show vs.toArray.size ≤ sizeLine; rw [List.size_toArray]; exact hvl)
  have kp : Keep h1 (h1.push { cls := .type "list", data := .seq vs.toArray }) := fun b o e => Heap.get?_push_of_some _ e
  have hl0 : (h1.push { cls := .type "list", data := .seq vs.toArray }).get? h1.objs.size = some { cls := .type "list", dict := Option.none, data := .seq vs.toArray 0, slots := #[] } := Heap.get?_push_size _ rfl
  refine hr A _ Z g ((b.keep k1).keep kp) ((F.keep k1).keep kp) ((z.keep k1).keep kp) _ _ fun vk h2 t2 k2 r2 => ?_
  cases r2
  have z2 : ZOk Z h2 := ((z.keep k1).keep kp).keep k2
  have hl2 := k2 _ _ hl0
  have hz' : vs.length * k.toNat ≤ 2 ^ 24 := by rw [← r1.length]; exact hz
  refine wpAny_binaryOp_repeat_ref (T := "list") (U := "int") (by decide) ⟨_, hl2, rfl⟩ (fun s' => typeIs_int s' k _) noFill_list_mul PySem.F.fills_int_mul PySem.F.slot_int_rmul repeat_list PySem.F.slot_int_index.lookup
    (call_meets PySem.F.slot_int_rmul (typeIs_int _ k _) PySem.F.entry_int_rmul (PySem.F.args_int_rmul_2 _ _) (int___rmul___int_list k _ h1.objs.size vs.toArray 0)
      ⟨hl2, rfl, ⟨_, hl2, rfl⟩, call_meets PySem.F.slot_list_mul ⟨_, hl2, rfl⟩ PySem.F.entry_list_mul (PySem.F.args_list_mul_2 _ _)
        (AutoListH.list___mul___list_int_3 h1.objs.size vs.toArray 0 k _ (by simp [Builtin.List.listFitsIndex]; omega) (by simp; omega) (by simp [Builtin.List.listTooLong, sizeLine]; omega))
        ⟨hl2, ?_⟩⟩)
  have hne' : vs ≠ [] := fun e => hne (List.eq_nil_of_length_eq_zero (by rw [r1.length, e]; rfl))
  have hem : vs.toArray.isEmpty = false := by cases vs with | nil => exact absurd rfl hne' | cons a r => rfl
  have e : List.foldl (fun x1 x2 => x1 ++ x2) #[] (List.replicate (if vs.toArray.isEmpty = true then 0 else k.toNat) vs.toArray) = (List.replicate k.toNat vs).flatten.toArray := by
    rw [hem]
    simp only [Bool.false_eq_true, if_false]
    generalize k.toNat = m
    have key : ∀ (m : Nat) (acc : List Value), List.foldl (fun (x1 x2 : Array Value) => x1 ++ x2) acc.toArray (List.replicate m vs.toArray) = (acc ++ (List.replicate m vs).flatten).toArray := by
      intro m
      induction m with
      | zero => intro acc; simp
      | succ m ih =>
        intro acc
        rw [List.replicate_succ, List.foldl_cons]
        have : acc.toArray ++ vs.toArray = (acc ++ vs).toArray := by simp
        rw [this, ih, List.replicate_succ, List.flatten_cons, List.append_assoc]
    simpa using key m []
  rw [e]
  refine h _ _ _ (fun b o e => Heap.get?_push_of_some _ (k2 _ _ (kp _ _ (k1 _ _ e)))) ?_
  have rep : ∀ m, RelL h2 Z (List.replicate m ps).flatten (List.replicate m vs).flatten := by
    intro m
    induction m with
    | zero => exact .nil
    | succ m ih => rw [List.replicate_succ, List.replicate_succ, List.flatten_cons, List.flatten_cons]; exact ((r1.keep kp).keep k2).append ih
  exact .list (not_hot_new z2) ⟨0, Heap.get?_push_size _ rfl⟩ ((rep _).keep fun b o e => Heap.get?_push_of_some _ e)

/-! Comparisons. -/
theorem CmpOK.eq_int {a b : Int} : CmpOK c n .Eq (.int a) (.int b) (a == b) := by
  intro A s Z va vb g bs z ra rb Q E h
  cases ra; cases rb
  exact PyProof.Rows.eq_int (h _ s.heap s.toks Keep.refl (.bool _))
theorem CmpOK.ne_int {a b : Int} : CmpOK c n .NotEq (.int a) (.int b) (a != b) := by
  intro A s Z va vb g bs z ra rb Q E h
  cases ra; cases rb
  exact PyProof.Rows.ne_int (h _ s.heap s.toks Keep.refl (.bool _))
theorem CmpOK.lt_int {a b : Int} : CmpOK c n .Lt (.int a) (.int b) (decide (a < b)) := by
  intro A s Z va vb g bs z ra rb Q E h
  cases ra; cases rb
  exact PyProof.Rows.lt_int (h _ s.heap s.toks Keep.refl (.bool _))
theorem CmpOK.gt_int {a b : Int} : CmpOK c n .Gt (.int a) (.int b) (decide (b < a)) := by
  intro A s Z va vb g bs z ra rb Q E h
  cases ra; cases rb
  exact PyProof.Rows.gt_int (h _ s.heap s.toks Keep.refl (.bool _))
theorem CmpOK.ne_str {a b : Str} : CmpOK c n .NotEq (.str a) (.str b) (a != b) := by
  intro A s Z va vb g bs z ra rb Q E h
  cases ra; cases rb
  exact PyProof.Rows.ne_str (h _ s.heap s.toks Keep.refl (.bool _))
theorem CmpOK.ne_bool {a b : Bool} : CmpOK c n .NotEq (.bool a) (.bool b) (a != b) := by
  intro A s Z va vb g bs z ra rb Q E h
  cases ra; cases rb
  exact PyProof.Rows.ne_bool (h _ s.heap s.toks Keep.refl (.bool _))
theorem CmpOK.in_str {x : Str} {k : Nat} : CmpOK c n .In (.str ⟨#[k]⟩) (.str x) (decide (k ∈ x.cps.toList)) := by
  intro A s Z va vb g bs z ra rb Q E h
  cases ra; cases rb
  refine PyProof.Rows.in_str ?_
  rw [StrLaws.found_one]
  exact h _ s.heap s.toks Keep.refl (.bool _)
theorem CmpOK.notIn_str {x : Str} {k : Nat} : CmpOK c n .NotIn (.str ⟨#[k]⟩) (.str x) (!decide (k ∈ x.cps.toList)) := by
  intro A s Z va vb g bs z ra rb Q E h
  cases ra; cases rb
  refine PyProof.Rows.notIn_str ?_
  rw [StrLaws.found_one]
  exact h _ s.heap s.toks Keep.refl (.bool _)
theorem TruthOK.bool {b : Bool} : TruthOK c n (.bool b) b := by
  intro A s Z v g bs z r Q E h
  cases r
  exact wpAny_truthy_bool (h s.heap s.toks Keep.refl)
theorem TruthOK.int {i : Int} : TruthOK c n (.int i) (i != 0) := by
  intro A s Z v g bs z r Q E h
  cases r
  exact truthy_int (h s.heap s.toks Keep.refl)
end
end Mine
end

/-! PlD -/
section
set_option maxRecDepth 100000
namespace Mine
open PySem PySem.W PyProof.Rows PySem.Calls PySem.Spec

/-! Values as the library's data; equality at any depth. -/
mutual
noncomputable def PV.dat : PV → PyData
  | .none => .none
  | .bool b => .bool b
  | .int i => .int i
  | .flt _ => .none
  | .str x => .str x
  | .tstr x _ => .str x
  | .list ds => .list (PV.dats ds)
  | .tup ds => .tuple (PV.dats ds)
  | .hot _ => .none
noncomputable def PV.dats : List PV → List PyData
  | [] => []
  | d :: ds => d.dat :: PV.dats ds
end
noncomputable def PV.ok : Nat → PV → Bool
  | _, .none => true
  | _, .bool _ => true
  | _, .int _ => true
  | _, .str x => PyData.strOk x
  | _, .tstr x _ => PyData.strOk x
  | n + 1, .tup ds => ds.all (PV.ok n)
  | n + 1, .list ds => ds.all (PV.ok n)
  | _, _ => false

mutual
theorem Rel.reads {h : Heap} {Z : Addr → Prop} : ∀ {p : PV} {v : Value} (n : Nat), Rel h Z p v → p.ok n = true → ∃ as, Reads h v p.dat as
  | _, _, _, .none, _ => ⟨_, Reads.none⟩
  | _, _, _, .bool b, _ => ⟨_, Reads.bool b⟩
  | _, _, _, .int i t, _ => ⟨_, Reads.int i t⟩
  | _, _, n, .flt _ _, hk => by cases n <;> simp [PV.ok] at hk
  | _, _, _, .str x t, _ => ⟨_, Reads.str x t⟩
  | _, _, _, .tstr x t, _ => ⟨_, Reads.str x t⟩
  | _, _, 0, .tup _ _ _, hk => by simp [PV.ok] at hk
  | _, _, 0, .list _ _ _, hk => by simp [PV.ok] at hk
  | _, _, n + 1, .tup _ hm r, hk => by
    obtain ⟨as, q⟩ := RelL.reads n r (by simpa [PV.ok] using hk)
    obtain ⟨o, ho, hc, k, hd⟩ := hm
    rw [PV.dat]
    exact ⟨as, reads_tuple_at ho hc hd (by simpa using q)⟩
  | _, _, n + 1, .list _ hm r, hk => by
    obtain ⟨as, q⟩ := RelL.reads n r (by simpa [PV.ok] using hk)
    obtain ⟨o, ho, hc, k, hd⟩ := hm.isList
    rw [PV.dat]
    exact ⟨_, reads_list_at ho hc hd (by simpa using q)⟩
theorem RelL.reads {h : Heap} {Z : Addr → Prop} : ∀ {ps : List PV} {vs : List Value} (n : Nat), RelL h Z ps vs → (∀ d ∈ ps, d.ok n = true) → ∃ as, ReadsAll h vs (PV.dats ps) as
  | _, _, _, .nil, _ => ⟨_, ReadsAll.nil⟩
  | _, _, n, .cons hd r, hk => by
    obtain ⟨as, q⟩ := Rel.reads n hd (hk _ (.head _))
    obtain ⟨bs, p⟩ := RelL.reads n r fun d hm => hk d (.tail _ hm)
    rw [PV.dats]
    exact ⟨_, ReadsAll.cons q p⟩
end
theorem PV.lay : ∀ (n : Nat) (d : PV), d.ok n = true → d.dat.canLay0 = true ∧ d.dat.depth ≤ n := by
  have all : ∀ (n : Nat), (∀ d : PV, d.ok n = true → d.dat.canLay0 = true ∧ d.dat.depth ≤ n) → ∀ ds : List PV, (∀ d ∈ ds, d.ok n = true) → PyData.canLayAll0 (PV.dats ds) = true ∧ PyData.depthAll (PV.dats ds) ≤ n := by
    intro n ih ds
    induction ds with
    | nil => intro _; simp [PV.dats, PyData.canLayAll0, PyData.depthAll]
    | cons d ds hi =>
      intro h
      have h1 := ih d (h d (.head _))
      have h2 := hi fun e he => h e (.tail _ he)
      simp only [PV.dats, PyData.canLayAll0, PyData.depthAll, h1.1, h2.1, Bool.and_self, true_and]
      have a1 := h1.2
      have a2 := h2.2
      omega
  intro n
  induction n with
  | zero =>
    intro d h
    cases d <;> simp_all [PV.ok, PV.dat, PyData.canLay0, PyData.depth]
  | succ n ih =>
    intro d h
    cases d with
    | none => simp [PV.dat, PyData.canLay0, PyData.depth]
    | bool b => simp [PV.dat, PyData.canLay0, PyData.depth]
    | int i => simp [PV.dat, PyData.canLay0, PyData.depth]
    | flt x => simp [PV.ok] at h
    | hot x => simp [PV.ok] at h
    | str x => simp [PV.ok] at h; simp [PV.dat, PyData.canLay0, PyData.depth, h]
    | tstr x t => simp [PV.ok] at h; simp [PV.dat, PyData.canLay0, PyData.depth, h]
    | tup ds =>
      have q := all n ih ds (by simpa [PV.ok] using h)
      have q2 := q.2
      simp only [PV.dat, PyData.canLay0, PyData.depth, q.1, true_and]
      omega
    | list ds =>
      have q := all n ih ds (by simpa [PV.ok] using h)
      have q2 := q.2
      simp only [PV.dat, PyData.canLay0, PyData.depth, q.1, true_and]
      omega

section
variable {c : Cx} {n : Nat}
theorem CmpOK.eq_data {p q : PV} (hp : p.ok 8 = true) (hq : q.ok 8 = true) {r : Bool} (hr : PyData.eqv p.dat q.dat = r) : CmpOK c n .Eq p q r := by
  intro A s Z va vb g bs z ra rb Q E h
  obtain ⟨as, xa⟩ := ra.reads 8 hp
  obtain ⟨bs', xb⟩ := rb.reads 8 hq
  have la := PV.lay 8 p hp
  have lb := PV.lay 8 q hq
  refine eq_dataH xa xb ?_ ?_ (by have := g.room; omega) (by rw [hr]; exact h _ s.heap s.toks Keep.refl (.bool _))
  · unfold SeqAt.shaped; rw [la.1, Bool.true_and]; exact decide_eq_true (Nat.le_trans la.2 (by decide))
  · unfold SeqAt.shaped; rw [lb.1, Bool.true_and]; exact decide_eq_true (Nat.le_trans lb.2 (by decide))
theorem CmpOK.ne_data {p q : PV} (hp : p.ok 8 = true) (hq : q.ok 8 = true) {r : Bool} (hr : PyData.eqv p.dat q.dat = r) : CmpOK c n .NotEq p q (!r) := by
  intro A s Z va vb g bs z ra rb Q E h
  obtain ⟨as, xa⟩ := ra.reads 8 hp
  obtain ⟨bs', xb⟩ := rb.reads 8 hq
  have la := PV.lay 8 p hp
  have lb := PV.lay 8 q hq
  refine ne_dataH xa xb ?_ ?_ (by have := g.room; omega) (by rw [hr]; exact h _ s.heap s.toks Keep.refl (.bool _))
  · unfold SeqAt.shaped; rw [la.1, Bool.true_and]; exact decide_eq_true (Nat.le_trans la.2 (by decide))
  · unfold SeqAt.shaped; rw [lb.1, Bool.true_and]; exact decide_eq_true (Nat.le_trans lb.2 (by decide))
theorem CmpOK.in_data {p : PV} {l : List PV} (hp : p.ok 8 = true) (hq : (PV.list l).ok 9 = true) {r : Bool} (hr : ((PV.dats l).any fun y => PyData.eqv y p.dat) = r) : CmpOK c n .In p (.list l) r := by
  intro A s Z va vb g bs z ra rb Q E h
  obtain ⟨as, xa⟩ := ra.reads 8 hp
  obtain ⟨bs', xb⟩ := rb.reads 9 hq
  have la := PV.lay 8 p hp
  have lb := PV.lay 9 _ hq
  rw [PV.dat] at xb lb
  simp only [PyData.canLay0] at lb
  have l2 := la.2
  refine SeqAt.in_list_reads xb xa lb.1 la.1 ?_ (by rw [hr]; exact h _ s.heap s.toks Keep.refl (.bool _))
  have := Nat.min_le_right (PyData.depthAll (PV.dats l)) p.dat.depth
  have := g.room
  omega
theorem CmpOK.notIn_data {p : PV} {l : List PV} (hp : p.ok 8 = true) (hq : (PV.list l).ok 9 = true) {r : Bool} (hr : ((PV.dats l).any fun y => PyData.eqv y p.dat) = r) : CmpOK c n .NotIn p (.list l) (!r) := by
  intro A s Z va vb g bs z ra rb Q E h
  obtain ⟨as, xa⟩ := ra.reads 8 hp
  obtain ⟨bs', xb⟩ := rb.reads 9 hq
  have la := PV.lay 8 p hp
  have lb := PV.lay 9 _ hq
  rw [PV.dat] at xb lb
  simp only [PyData.canLay0] at lb
  have l2 := la.2
  refine SeqAt.notIn_list_reads xb xa lb.1 la.1 ?_ (by rw [hr]; exact h _ s.heap s.toks Keep.refl (.bool _))
  have := Nat.min_le_right (PyData.depthAll (PV.dats l)) p.dat.depth
  have := g.room
  omega

/-! Lists of zl as native lists. -/
noncomputable abbrev zl (l : List Int) : PV := .list (l.map .int)
theorem ok_ints (l : List Int) (k : Nat) : (zl l).ok (k + 1) = true := by
  simp only [zl, PV.ok, List.all_map, List.all_eq_true]
  intro x _
  cases k <;> rfl
theorem dats_ints (l : List Int) : PV.dats (l.map .int) = l.map .int := by
  induction l with
  | nil => rfl
  | cons a l ih => simp [PV.dats, PV.dat, ih]
theorem eqv_ints (l m : List Int) : PyData.eqv (zl l).dat (zl m).dat = decide (l = m) := by
  simp only [zl, PV.dat, dats_ints, PyData.eqv]
  induction l generalizing m with
  | nil => cases m <;> simp [PyData.eqvAll]
  | cons a l ih =>
    cases m with
    | nil => simp [PyData.eqvAll]
    | cons b m =>
      simp only [List.map_cons, PyData.eqvAll, PyData.eqv, ih]
      by_cases h : a = b <;> by_cases h' : l = m <;> simp [h, h']
theorem CmpOK.eq_ints (l m : List Int) : CmpOK c n .Eq (zl l) (zl m) (decide (l = m)) := CmpOK.eq_data (ok_ints l 7) (ok_ints m 7) (eqv_ints l m)
theorem CmpOK.ne_ints (l m : List Int) : CmpOK c n .NotEq (zl l) (zl m) (!decide (l = m)) := CmpOK.ne_data (ok_ints l 7) (ok_ints m 7) (eqv_ints l m)
theorem any_ints (l : List Int) (i : Int) : ((PV.dats (l.map .int)).any fun y => PyData.eqv y (PV.int i).dat) = decide (i ∈ l) := by
  rw [dats_ints]
  induction l with
  | nil => simp
  | cons a l ih =>
    rw [List.map_cons, List.any_cons, ih]
    have e0 : PyData.eqv (PyData.int a) (PV.int i).dat = (a == i) := rfl
    rw [e0]
    by_cases h : a = i
    · simp [h]
    · have h' : i ≠ a := fun e => h e.symm
      simp [h, h']
theorem CmpOK.in_ints (i : Int) (l : List Int) : CmpOK c n .In (.int i) (zl l) (decide (i ∈ l)) := CmpOK.in_data rfl (ok_ints l 8) (any_ints l i)
theorem CmpOK.notIn_ints (i : Int) (l : List Int) : CmpOK c n .NotIn (.int i) (zl l) (!decide (i ∈ l)) := CmpOK.notIn_data rfl (ok_ints l 8) (any_ints l i)
theorem dats_length (l : List PV) : (PV.dats l).length = l.length := by
  induction l with
  | nil => rfl
  | cons a l ih => simp [PV.dats, ih]
theorem eqv_nil (l : List PV) : PyData.eqv (PV.list l).dat (PV.list []).dat = l.isEmpty := by
  cases l <;> rfl
theorem CmpOK.eq_nil {l : List PV} (h : (PV.list l).ok 8 = true) : CmpOK c n .Eq (.list l) (.list []) l.isEmpty := CmpOK.eq_data h rfl (eqv_nil l)
theorem CmpOK.ne_nil {l : List PV} (h : (PV.list l).ok 8 = true) : CmpOK c n .NotEq (.list l) (.list []) (!l.isEmpty) := CmpOK.ne_data h rfl (eqv_nil l)

/-! Items and cuts. -/
theorem SubOK.list {value slice : Expr} {l : List PV} {k : Int} {p : PV} (h0 : 0 ≤ k) (hk : k < 2 ^ 63) (e : l[k.toNat]? = some p)
    (hs : ∀ a t, subscripted slice false (.ref a) (.int k t) = operate [.ref a, .int k t] (getItem (.ref a) (.int k t)) := by intro _ _; with_unfolding_all rfl) : SubOK c n value slice (.list l) (.int k) p := by
  intro A s Z va vb g bs z ra rb Q E h
  cases rb
  cases ra with
  | list za la ra =>
    obtain ⟨v, hv, rv⟩ := ra.get e
    exact tail_any la.isList.typeIs slot_list_getitem.lookup (wpAny_getItem_list la.isList h0 hk (by simpa using hv) (h _ s.heap s.toks Keep.refl rv)) (hs _ _)
theorem SubOK.listNeg {value slice : Expr} {l : List PV} {k : Int} {p : PV} {j : Nat} (h0 : k < 0) (hk : -(2 ^ 63) ≤ k) (hj : seqIndex? k l.length = some j) (e : l[j]? = some p)
    (hs : ∀ a t, subscripted slice false (.ref a) (.int k t) = operate [.ref a, .int k t] (getItem (.ref a) (.int k t)) := by intro _ _; with_unfolding_all rfl) : SubOK c n value slice (.list l) (.int k) p := by
  intro A s Z va vb g bs z ra rb Q E h
  cases rb
  cases ra with
  | list za la ra =>
    obtain ⟨v, hv, rv⟩ := ra.get e
    exact kde_neg la.isList h0 hk (by rw [← ra.length]; exact hj) hv (h _ s.heap s.toks Keep.refl rv) (hs _ _)
theorem SubOK.tup {value slice : Expr} {l : List PV} {k : Int} {p : PV} (h0 : 0 ≤ k) (hk : k < 2 ^ 63) (e : l[k.toNat]? = some p)
    (hs : ∀ a t, subscripted slice false (.ref a) (.int k t) = operate [.ref a, .int k t] (getItem (.ref a) (.int k t)) := by intro _ _; with_unfolding_all rfl) : SubOK c n value slice (.tup l) (.int k) p := by
  intro A s Z va vb g bs z ra rb Q E h
  cases rb
  cases ra with
  | tup za la ra =>
    obtain ⟨v, hv, rv⟩ := ra.get e
    have hlt : k.toNat < l.length := by
      rcases Nat.lt_or_ge k.toNat l.length with q | q
      · exact q
      · rw [List.getElem?_eq_none q] at e; cases e
    have hj : seqIndex? k l.length = some k.toNat := by
      unfold seqIndex?
      have h1 : ¬ k < 0 := by omega
      have h2 : k < l.length := by omega
      simp [h1, h2, h0]
    exact item_tupleT la (by omega) hk (by rw [← ra.length]; exact hj) hv (h _ s.heap s.toks Keep.refl rv) (hs _ _)
theorem SubOK.str {value slice : Expr} {x : Str} {k : Int} {ch : Nat} (h0 : 0 ≤ k) (hk : k < 2 ^ 62) (e : x.cps[k.toNat]? = some ch)
    (hs : ∀ t u, subscripted slice false (.str x t) (.int k u) = operate [.str x t, .int k u] (getItem (.str x t) (.int k u)) := by intro _ _; with_unfolding_all rfl) : SubOK c n value slice (.str x) (.int k) (.str ⟨#[ch]⟩) := by
  intro A s Z va vb g bs z ra rb Q E h
  cases rb
  cases ra
  have hlt : k.toNat < x.cps.size := by
    rcases Nat.lt_or_ge k.toNat x.cps.size with q | q
    · exact q
    · rw [Array.getElem?_eq_none q] at e; cases e
  have hj : seqIndex? k x.length = some k.toNat := by
    unfold seqIndex?
    have h1 : ¬ k < 0 := by omega
    have h2 : k < x.length := by show k < x.cps.size; omega
    simp [h1, h2, h0]
  have ec : Txt.charAt x k = some ch := by unfold Txt.charAt; rw [hj]; exact e
  have ei : Txt.item x k = ⟨#[ch]⟩ := by unfold Txt.item; rw [ec]; rfl
  refine tail_any (typeIs_str s x _) PySem.F.slot_str_getitem.lookup (P.getItem_str ?_ ec (h _ s.heap _ Keep.refl (.str _ _))) (hs _ _)
  have a1 : decide (k < -(2 ^ 63 : Int)) = false := decide_eq_false (by omega)
  have a2 : decide (k ≥ 2 ^ 63) = false := decide_eq_false (by omega)
  simp [a1, a2]
  omega
end
end Mine
end

/-! PlE -/
section
set_option maxRecDepth 100000
namespace Mine
open PySem PySem.W PyProof.Rows PySem.Calls PySem.Spec

section
variable {c : Cx} {n : Nat} {env : Env} {ρ : PEnv}

/-! Calls. -/
noncomputable def CallV (c : Cx) (n : Nat) (f : Value) (ps : List PV) (p : PV) : Prop :=
  ∀ (A : Around) (s : Shared) (Z : Addr → Prop) (vs : List Value), Good n A → c.Base s.heap → ZOk Z s.heap → RelL s.heap Z ps vs → Gv c A Z s (call f vs) p
/-- a def of the text, by its name -/
noncomputable def CALL (c : Cx) (n : Nat) (f : Str) (ps : List PV) (p : PV) : Prop := ∀ a, c.mg f = some (.ref a) → CallV c n (.ref a) ps p

theorem wpAny_evalArgs_nil {M : Model} {A : Around} {f : Value} {Q : Args → Shared → Prop} {E : Value → Shared → Prop} {s : Shared} (h : Q ⟨[], []⟩ s) : wpAny M A (evalArgs f true [] []) Q E s := by
  unfold evalArgs
  show wpAny M A (spliced [] >>= _) Q E s
  refine wpAny_bind (spliced_nil (wpAny_bind (wpAny_pure ?_)))
  refine wpAny_holding ?_
  exact wpAny_bind (wpAny_pure (wpAny_bind (wpAny_pure (wpAny_pure h))))

theorem EVL.args {pos : Pos} {es : List Expr} {ps : List PV} (h : EVL c n env ρ es ps) (hs : (es.all fun e => !isStarred e) = true) {f : Value}
    {A : Around} {s : Shared} {Z : Addr → Prop} (g : Good n A) (b : c.Base s.heap) (F : FrameOk env s.heap Z ρ) (z : ZOk Z s.heap) {Q : Args → Shared → Prop} {E : Value → Shared → Prop}
    (hq : ∀ vs h' tk, Keep s.heap h' → RelL h' Z ps vs → Q ⟨vs, []⟩ { s with heap := h', toks := tk }) : wpAny c.M A (evalArgs f true (backTo pos (starEach es env)) []) Q E s := by
  cases es with
  | nil =>
    cases ps with
    | nil => exact wpAny_evalArgs_nil (hq [] s.heap s.toks Keep.refl .nil)
    | cons _ _ => exact h.elim
  | cons e es =>
    have hs' : isStarred e = false ∧ (es.all fun e => !isStarred e) = true := by simpa using hs
    have e1 : backTo pos (starEach (e :: es) env) = (false, eval e env) :: backTo pos (starEach es env) := by
      have : starEach (e :: es) env = (false, eval e env) :: starEach es env := by
        cases e <;> first | rfl | (exfalso; simp [isStarred] at hs')
      rw [this]; rfl
    rw [e1]
    refine evalArgs_plain ?_
    rw [← e1]
    exact h.spliced hs g b F z _ _ fun vs h1 t1 k1 r1 => hq vs h1 t1 k1 r1

theorem noStar {pos : Pos} : ∀ {es : List Expr}, (es.all fun e => !isStarred e) = true → (backTo pos (starEach es env)).any (·.1) = false
  | [], _ => rfl
  | e :: es, hs => by
    have hs' : isStarred e = false ∧ (es.all fun e => !isStarred e) = true := by simpa using hs
    have e1 : starEach (e :: es) env = (false, eval e env) :: starEach es env := by
      cases e <;> first | rfl | (exfalso; simp [isStarred] at hs')
    rw [e1]
    show (false || (backTo pos (starEach es env)).any (·.1)) = false
    rw [noStar hs'.2]; rfl

theorem wp_nameB {f : Str} {fp : Pos} {v : Value} {A : Around} {s : Shared} {Q : Value → Shared → Prop} {E : Value → Shared → Prop}
    (hx : env.kindOf f = some .globalImplicit) (hm : c.mg f = none) (hb : bootBuiltins f = some v) (hn : f ≠ "__name__")
    (hd : (f == ("__debug__" : Str)) = false) (b : c.Base s.heap) (ok : EnvOk env) (h : Q v s) : wpAny c.M A (eval (.Name f fp) env) Q E s :=
  Name_function_global ok.kind hx (loadGlobal_builtin (env := env) (mg := c.mg) (mb := c.mb) (by rw [ok.globals]; exact b.g) hm (by rw [ok.builtins]; exact b.b) ((b.builtins f hn).trans hb) h) hd

theorem EV.callB {f : Str} {id : String} {fp pos : Pos} {args : List Expr} {ps : List PV} {p : PV} (ha : EVL c n env ρ args ps) (hc : CallV c n (.builtin id) ps p)
    (hx : env.kindOf f = some .globalImplicit) (hm : c.mg f = none) (hb : bootBuiltins f = some (.builtin id)) (hn : f ≠ "__name__" := by decide)
    (hd : (f == ("__debug__" : Str)) = false := by decide) (hs : (args.all fun e => !isStarred e) = true := by rfl) : EV c n env ρ (.Call (.Name f fp) args [] pos) p := by
  intro A s Z g b F z Q E h
  show wpAny _ _ (eval (.Name f fp) env >>= fun v => callWith pos v [] (backTo pos (starEach args env)) []) _ _ _
  refine wpAny_bind (wp_nameB (c := c) hx hm hb hn hd b F.ok ?_)
  refine callWith_builtin (noStar hs) (ha.args hs g b F z fun vs h1 t1 k1 r1 => ?_)
  exact hc A _ Z vs g (b.keep k1) (z.keep k1) r1 _ _ fun v h2 t2 k2 r2 => h v h2 t2 (k1.trans k2) r2
theorem EV.callF {f : Str} {a : Addr} {fp pos : Pos} {args : List Expr} {ps : List PV} {p : PV} (ha : EVL c n env ρ args ps) (hc : CALL c n f ps p)
    (hx : env.kindOf f = some .globalImplicit) (hm : c.mg f = some (.ref a)) (hr : f ∈ (recsOf c.p).map (·.name))
    (hd : (f == ("__debug__" : Str)) = false := by decide) (hs : (args.all fun e => !isStarred e) = true := by rfl) : EV c n env ρ (.Call (.Name f fp) args [] pos) p := by
  intro A s Z g b F z Q E h
  show wpAny _ _ (eval (.Name f fp) env >>= fun v => callWith pos v [] (backTo pos (starEach args env)) []) _ _ _
  refine wpAny_bind (Name_function_global F.ok.kind hx (loadGlobal_global (env := env) (mg := c.mg) (by rw [F.ok.globals]; exact b.g) hm ?_) hd)
  obtain ⟨d, hd1, hd2⟩ := List.mem_map.mp hr
  obtain ⟨a', o, pm, code, doc, h1, h2, h3, h4⟩ := b.fn d hd1
  have ea : a' = a := by rw [hd2, hm] at h1; cases h1; rfl
  subst ea
  refine callWith_function (o := o) (fd := docDef d.name d.params d.body d.scope pm code doc) (ha.args hs g b F z fun vs h1' t1 k1 r1 => ⟨⟨k1 _ _ h2, h3⟩, ?_⟩)
  exact hc _ hm A _ Z vs g (b.keep k1) (z.keep k1) r1 _ _ fun v h2 t2 k2 r2 => h v h2 t2 (k1.trans k2) r2

/-! The built-ins. -/
theorem CallV.len {l : List PV} (hz : l.length < 2 ^ 62) : CallV c n (.builtin "len") [.list l] (.int l.length) := by
  intro A s Z vs g b z r Q E h
  cases r with | cons r r' => cases r'; cases r with
  | list za la ra =>
    have e := ra.length
    refine Calls.call_len_list la.isList (by simp only [List.size_toArray]; omega) ?_
    rw [List.size_toArray, ← e]
    exact h _ s.heap _ Keep.refl (.int _ _)
theorem CallV.lenStr {x : Str} (hz : x.length < 2 ^ 62) : CallV c n (.builtin "len") [.str x] (.int x.length) := by
  intro A s Z vs g b z r Q E h
  cases r with | cons r r' => cases r'; cases r with
  | str _ t => exact P.len_str (by omega) (h _ s.heap _ Keep.refl (.int _ _))
theorem relL_ints {h : Heap} {Z : Addr → Prop} {l : List Int} : ∀ {vs : List Value}, RelL h Z (l.map .int) vs → ∃ xs : Array (Int × Tok), vs.toArray = intItems xs ∧ xs.toList.map (·.1) = l := by
  induction l with
  | nil =>
    intro vs r
    rw [RelL.nilInv r]
    exact ⟨#[], by simp [intItems], rfl⟩
  | cons i l ih =>
    intro vs r
    obtain ⟨v, us, rfl, a, r'⟩ := RelL.inv (p := .int i) (ps := l.map .int) r
    obtain ⟨t, rfl⟩ := Rel.intInv a
    obtain ⟨xs, e1, e2⟩ := ih r'
    refine ⟨#[(i, t)] ++ xs, ?_, by simp [e2]⟩
    have : (Value.int i t :: us).toArray = #[Value.int i t] ++ intItems xs := by rw [← e1]; simp
    rw [this]
    simp [intItems]
theorem preSum_eq' (xs : Array (Int × Tok)) : ∀ k, k ≤ xs.size → preSum (numAt xs) k = ((xs.toList.map (·.1)).take k).sum
  | 0, _ => rfl
  | k + 1, hk => by
    have ih := preSum_eq' xs k (by omega)
    have hk' : k < xs.size := by omega
    have e : (xs.toList.map (·.1))[k]? = some (numAt xs k) := by simp [numAt, hk']
    rw [preSum, ih, List.take_add_one, e]
    simp
theorem CallV.sum {l : List Int} (hb : ∀ x ∈ l, -(2 ^ 40) ≤ x ∧ x < 2 ^ 40) (hn : l.length < 2 ^ 20) : CallV c n (.builtin "sum") [zl l] (.int l.sum) := by
  intro A s Z vs g b z r Q E h
  cases r with | cons r r' => cases r'; cases r with
  | list za la ra =>
    obtain ⟨xs, e1, e2⟩ := relL_ints ra
    rw [e1] at la
    have hlen : xs.size = l.length := by rw [← e2]; simp
    have bnd : ∀ m : List Int, (∀ x ∈ m, -(2 ^ 40) ≤ x ∧ x < 2 ^ 40) → -(2 ^ 40) * (m.length : Int) ≤ m.sum ∧ m.sum ≤ 2 ^ 40 * (m.length : Int) := by
      intro m
      induction m with
      | nil => intro _; simp
      | cons a m ih =>
        intro hm
        have h1 := hm a (.head _)
        have h2 := ih fun x hx => hm x (.tail _ hx)
        simp only [List.sum_cons, List.length_cons]
        omega
    refine sum_intList g.h la.isList (fun j hj => ⟨?_, ?_⟩) fun h' tk t' k => ?_
    · have e : (xs.toList.map (·.1))[j]? = some (numAt xs j) := by simp [numAt, hj]
      rw [e2] at e
      have := hb _ (List.mem_of_getElem? e)
      constructor <;> omega
    · rw [preSum_eq' xs (j + 1) (by omega), e2]
      have := bnd (l.take (j + 1)) fun x hx => hb x (List.mem_of_mem_take hx)
      have h2 : (l.take (j + 1)).length ≤ l.length := by rw [List.length_take]; omega
      constructor <;> omega
    · rw [preSum_eq' xs xs.size (Nat.le_refl _), e2, hlen, List.take_length]
      exact h _ h' tk k (.int _ _)
theorem CallV.max2 {a b : Int} : CallV c n (.builtin "max") [.int a, .int b] (.int (if b > a then b else a)) := by
  intro A s Z vs g bs z r Q E h
  cases r with
  | cons r r' =>
    cases r' with
    | cons r2 r3 =>
      cases r3
      cases r
      cases r2
      refine max_two_ints g.h fun h' tk k => ?_
      by_cases q : b > a
      · rw [if_pos q] at h ⊢
        exact h _ h' tk k (.int _ _)
      · rw [if_neg q] at h ⊢
        exact h _ h' tk k (.int _ _)
end
end Mine
end

/-! PlF -/
section
set_option maxRecDepth 100000
namespace Mine
open PySem PySem.W PyProof.Rows PySem.Calls PySem.Spec

/-! The state of a frame that is being run: what it may change is new, and hot. -/
structure WrOk (env : Env) (W : List Str) (h₀ h : Heap) (Z : Addr → Prop) : Prop where
  ns : ∃ m, h.Ns env.locals m
  new : h₀.get? env.locals = none
  hot : Z env.locals
  cell : ∀ x ∈ W, env.kindOf x = some .cell → ∃ a v, env.cells.lookup x = some a ∧ h.IsCell a v ∧ h₀.get? a = none ∧ Z a
  inj : ∀ x y a, env.cells.lookup x = some a → env.cells.lookup y = some a → x = y

structure St (c : Cx) (env : Env) (W : List Str) (h₀ : Heap) (Z₀ : Addr → Prop) (h : Heap) (Z : Addr → Prop) (ρ : PEnv) : Prop where
  base : c.Base h₀
  keep : Keep h₀ h
  fr : FrameOk env h Z ρ
  wr : WrOk env W h₀ h Z
  z : ZOk Z h
  z0 : ∀ a, Z₀ a → Z a
  zn : ∀ a, Z₀ a → ∃ o, h₀.get? a = some o
  hots : ∀ x l, ρ.lookup x = some (.hot l) → ∃ a vs, Holds env h x (.ref a) ∧ Z a ∧ h₀.get? a = none ∧ h.PlainList a vs.toArray ∧ RelL h Z l vs

theorem KeepBut.of {Z : Addr → Prop} {h h' : Heap} (k : Keep h h') : KeepBut Z h h' := fun b o _ e => k b o e

variable {c : Cx} {n : Nat} {env : Env} {W : List Str} {ρ : PEnv} {h₀ h : Heap} {Z Z₀ : Addr → Prop}

theorem St.baseNow (S : St c env W h₀ Z₀ h Z ρ) : c.Base h := S.base.keep S.keep

/-- an expression has been evaluated -/
theorem St.keeps (S : St c env W h₀ Z₀ h Z ρ) {h' : Heap} (k : Keep h h') : St c env W h₀ Z₀ h' Z ρ where
  base := S.base
  keep := S.keep.trans k
  fr := S.fr.keep k
  wr := { S.wr with
    ns := let ⟨m, q⟩ := S.wr.ns; ⟨m, q.keeps k⟩
    cell := fun x hx hk => let ⟨a, v, e1, e2, e3⟩ := S.wr.cell x hx hk; ⟨a, v, e1, e2.keeps k, e3⟩ }
  z := S.z.keep k
  z0 := S.z0
  zn := S.zn
  hots := fun x l e => let ⟨a, vs, e1, e2, e3, ⟨n, e4⟩, e5⟩ := S.hots x l e; ⟨a, vs, e1.keep k, e2, e3, ⟨n, k _ _ e4⟩, e5.keep k⟩
theorem St.weak (S : St c env W h₀ Z₀ h Z ρ) {ρ' : PEnv} (k : ∀ x p, ρ'.lookup x = some p → ρ.lookup x = some p) : St c env W h₀ Z₀ h Z ρ' :=
  { S with fr := S.fr.weak k, hots := fun x l e => S.hots x l (k _ _ e) }

theorem Ns.dict {h : Heap} {a : Addr} {m : Str → Option Value} (x : h.Ns a m) {o : Obj} (e : h.get? a = some o) : ∃ es ep, o.data = .dict es ep := by
  obtain ⟨o', es, ep, e', d, _⟩ := x
  rw [e] at e'; cases e'; exact ⟨es, ep, d⟩
theorem Ns.ne_cell {h : Heap} {a b : Addr} {m : Str → Option Value} {v : Option Value} (x : h.Ns a m) (y : h.IsCell b v) : b ≠ a := by
  rintro rfl
  obtain ⟨o, e, d⟩ := y
  obtain ⟨es, ep, d'⟩ := Ns.dict x e
  rw [d] at d'; cases d'
theorem Ns.ne_list {h : Heap} {a b : Addr} {m : Str → Option Value} {xs : Array Value} (x : h.Ns a m) (y : h.PlainList b xs) : b ≠ a := by
  rintro rfl
  obtain ⟨n, e⟩ := y
  obtain ⟨es, ep, d'⟩ := Ns.dict x e
  cases d'
theorem IsCell.ne_list {h : Heap} {a b : Addr} {v : Option Value} {xs : Array Value} (x : h.IsCell a v) (y : h.PlainList b xs) : b ≠ a := by
  rintro rfl
  obtain ⟨n, e⟩ := y
  obtain ⟨o, e', d⟩ := x
  rw [e] at e'; cases e'; cases d

theorem SameBut.keepBut {a : Addr} {h h' : Heap} (s : Heap.SameBut a h h') {Z : Addr → Prop} (z : Z a) : KeepBut Z h h' := fun b o q e => (s.2 b fun x => q (x ▸ z)).trans e
theorem SameBut.exists {a : Addr} {h h' : Heap} (s : Heap.SameBut a h h') (k : ∃ o, h'.get? a = some o) {b : Addr} (e : ∃ o, h.get? b = some o) : ∃ o, h'.get? b = some o := by
  by_cases q : b = a
  · subst q; exact k
  · obtain ⟨o, e⟩ := e; exact ⟨o, (s.2 b q).trans e⟩

/-- bound to a new value: a name of the frame's own -/
noncomputable def PEnv.set (ρ : PEnv) (x : Str) (p : PV) : PEnv := (x, p) :: ρ
theorem PEnv.set_here {ρ : PEnv} {x : Str} {p : PV} : (ρ.set x p).lookup x = some p := by simp [PEnv.set]
theorem PEnv.set_off {ρ : PEnv} {x y : Str} {p : PV} (h : y ≠ x) : (ρ.set x p).lookup y = ρ.lookup y := by
  have : (y == x) = false := by simpa using h
  simp [PEnv.set, List.lookup_cons, this]

theorem St.storeL (S : St c env W h₀ Z₀ h Z ρ) {x : Str} {v : Value} {h' : Heap} {m : Str → Option Value} {p : PV} (hk : env.kindOf x = some .local) (hn : h.Ns env.locals m)
    (hn' : h'.Ns env.locals (fun y => if y = x then some v else m y)) (hs : Heap.SameBut env.locals h h')
    (r : (p.isHot = false ∧ Rel h Z p v) ∨ ∃ l a vs, p = .hot l ∧ v = .ref a ∧ Z a ∧ h₀.get? a = none ∧ h.PlainList a vs.toArray ∧ RelL h Z l vs) : St c env W h₀ Z₀ h' Z (ρ.set x p) ∧ KeepBut Z h h' := by
  have kb : KeepBut Z h h' := SameBut.keepBut hs S.wr.hot
  have ex : ∀ {b : Addr}, (∃ o, h.get? b = some o) → ∃ o, h'.get? b = some o := fun e => SameBut.exists hs (let ⟨o, _, _, e, _⟩ := hn'; ⟨o, e⟩) e
  have hold : ∀ y u, y ≠ x → Holds env h y u → Holds env h' y u := by
    rintro y u hy (⟨k1, m', n', e⟩ | ⟨k1, a, e1, e2⟩)
    · exact .inl ⟨k1, _, hn', by rw [if_neg hy, ← n'.agree hn y]; exact e⟩
    · exact .inr ⟨k1, a, e1, e2.sameBut hs (Ns.ne_cell hn e2)⟩
  refine ⟨⟨S.base, fun b o e => (hs.2 b fun q => ?_).trans (S.keep b o e), ⟨S.fr.ok, fun y q e hq => ?_⟩, ⟨⟨_, hn'⟩, S.wr.new, S.wr.hot, fun y hy hky => ?_, S.wr.inj⟩, fun a q => ex (S.z a q), S.z0, S.zn, fun y l e => ?_⟩, kb⟩
  · rw [q, S.wr.new] at e; cases e
  · by_cases hy : y = x
    · subst hy
      rw [PEnv.set_here] at e; cases e
      rcases r with ⟨_, r⟩ | ⟨l, a, vs, rfl, _⟩
      · exact ⟨v, .inl ⟨hk, _, hn', by simp⟩, r.but kb⟩
      · cases hq
    · rw [PEnv.set_off hy] at e
      obtain ⟨u, e1, e2⟩ := S.fr.vars y q e hq
      exact ⟨u, hold y u hy e1, e2.but kb⟩
  · obtain ⟨a, u, e1, e2, e3, e4⟩ := S.wr.cell y hy hky
    exact ⟨a, u, e1, e2.sameBut hs (Ns.ne_cell hn e2), e3, e4⟩
  · by_cases hy : y = x
    · subst hy
      rw [PEnv.set_here] at e; cases e
      rcases r with ⟨hp, _⟩ | ⟨l', a, vs, e', rfl, e2, e3, e4, e5⟩
      · cases hp
      · cases e'
        have ne := Ns.ne_list hn e4
        obtain ⟨k, e4⟩ := e4
        exact ⟨a, vs, .inl ⟨hk, _, hn', by simp⟩, e2, e3, ⟨k, (hs.2 a ne).trans e4⟩, e5.but kb⟩
    · rw [PEnv.set_off hy] at e
      obtain ⟨a, vs, e1, e2, e3, e4, e5⟩ := S.hots y l e
      have ne := Ns.ne_list hn e4
      obtain ⟨k, e4⟩ := e4
      exact ⟨a, vs, hold y _ hy e1, e2, e3, ⟨k, (hs.2 a ne).trans e4⟩, e5.but kb⟩

theorem St.storeC (S : St c env W h₀ Z₀ h Z ρ) {x : Str} {v : Value} {h' : Heap} {a : Addr} {v₀ : Option Value} {p : PV} (hk : env.kindOf x = some .cell) (hc : env.cells.lookup x = some a) (hv : h.IsCell a v₀)
    (hnew : h₀.get? a = none) (hz : Z a) (hn' : h'.IsCell a (some v)) (hs : Heap.SameBut a h h') (r : Rel h Z p v) (hp : p.isHot = false) : St c env W h₀ Z₀ h' Z (ρ.set x p) ∧ KeepBut Z h h' := by
  have kb : KeepBut Z h h' := SameBut.keepBut hs hz
  have ex : ∀ {b : Addr}, (∃ o, h.get? b = some o) → ∃ o, h'.get? b = some o := fun e => SameBut.exists hs (let ⟨o, e, _⟩ := hn'; ⟨o, e⟩) e
  obtain ⟨m, hm⟩ := S.wr.ns
  have hold : ∀ y u, y ≠ x → Holds env h y u → Holds env h' y u := by
    rintro y u hy (⟨k1, m', n', e⟩ | ⟨k1, b, e1, e2⟩)
    · exact .inl ⟨k1, m', n'.sameBut hs (Ne.symm (Ns.ne_cell n' hv)), e⟩
    · exact .inr ⟨k1, b, e1, e2.sameBut hs fun q => hy (S.wr.inj y x a (q ▸ e1) hc)⟩
  refine ⟨⟨S.base, fun b o e => (hs.2 b fun q => ?_).trans (S.keep b o e), ⟨S.fr.ok, fun y q e hq => ?_⟩, ⟨⟨m, hm.sameBut hs (Ne.symm (Ns.ne_cell hm hv))⟩, S.wr.new, S.wr.hot, fun y hy hky => ?_, S.wr.inj⟩, fun a q => ex (S.z a q), S.z0, S.zn, fun y l e => ?_⟩, kb⟩
  · rw [q, hnew] at e; cases e
  · by_cases hy : y = x
    · subst hy
      rw [PEnv.set_here] at e; cases e
      exact ⟨v, .inr ⟨.inl hk, a, hc, hn'⟩, r.but kb⟩
    · rw [PEnv.set_off hy] at e
      obtain ⟨u, e1, e2⟩ := S.fr.vars y q e hq
      exact ⟨u, hold y u hy e1, e2.but kb⟩
  · obtain ⟨b, u, e1, e2, e3, e4⟩ := S.wr.cell y hy hky
    by_cases q : b = a
    · subst q; exact ⟨b, _, e1, hn', e3, e4⟩
    · exact ⟨b, u, e1, e2.sameBut hs q, e3, e4⟩
  · by_cases hy : y = x
    · subst hy
      rw [PEnv.set_here] at e; cases e; cases hp
    · rw [PEnv.set_off hy] at e
      obtain ⟨b, vs, e1, e2, e3, e4, e5⟩ := S.hots y l e
      have ne := IsCell.ne_list hv e4
      obtain ⟨k, e4⟩ := e4
      exact ⟨b, vs, hold y _ hy e1, e2, e3, ⟨k, (hs.2 b ne).trans e4⟩, e5.but kb⟩

/-- a name that may be stored here -/
noncomputable def Stored (env : Env) (W : List Str) (x : Str) : Prop := env.kindOf x = some .local ∨ (env.kindOf x = some .cell ∧ x ∈ W)

theorem St.store {A : Around} {s : Shared} (S : St c env W h₀ Z₀ s.heap Z ρ) {x : Str} {v : Value} {p : PV} (hx : Stored env W x) (r : Rel s.heap Z p v) (hp : p.isHot = false)
    {Q : Unit → Shared → Prop} {E : Value → Shared → Prop} (h : ∀ h' tk, St c env W h₀ Z₀ h' Z (ρ.set x p) → KeepBut Z s.heap h' → (∀ b xs, s.heap.PlainList b xs → h'.PlainList b xs) → Q () { s with heap := h', toks := tk }) :
    wpAny c.M A (storeName env x v) Q E s := by
  rcases hx with hk | ⟨hk, hw⟩
  · obtain ⟨m, hn⟩ := S.wr.ns
    refine wpAny_storeName_local hk hn (fun h' hn' hs => ?_) (by rw [S.fr.ok.kind]; rfl)
    obtain ⟨S', kb⟩ := S.storeL hk hn hn' hs (.inl ⟨hp, r⟩)
    refine h h' _ S' kb fun b xs hb => ?_
    have ne := Ns.ne_list hn hb
    obtain ⟨m', e⟩ := hb
    exact ⟨m', (hs.2 b ne).trans e⟩
  · obtain ⟨a, v₀, e1, e2, e3, e4⟩ := S.wr.cell x hw hk
    refine wpAny_storeName_cell S.fr.ok.kind hk e1 e2 fun h' hn' hs => ?_
    obtain ⟨S', kb⟩ := S.storeC hk e1 e2 e3 e4 hn' hs r hp
    refine h h' _ S' kb fun b xs hb => ?_
    have ne := IsCell.ne_list e2 hb
    obtain ⟨m', e⟩ := hb
    exact ⟨m', (hs.2 b ne).trans e⟩

/-! Statements, by what holds behind them. -/
inductive PF where
  | next
  | ret (p : PV)
inductive RelF (h : Heap) (Z : Addr → Prop) : PF → Flow → Prop
  | next : RelF h Z .next .next
  | ret {p : PV} {v : Value} : Rel h Z p v → RelF h Z (.ret p) (.ret v)

theorem RelF.but {h h' : Heap} {Z : Addr → Prop} (k : KeepBut Z h h') {f : PF} {fl : Flow} : RelF h Z f fl → RelF h' Z f fl
  | .next => .next
  | .ret r => .ret (r.but k)

noncomputable def EX (c : Cx) (n : Nat) (env : Env) (W : List Str) (ss : List Stmt) (ρ : PEnv) (Φ : PF → PEnv → Prop) : Prop :=
  ∀ (A : Around) (s : Shared) (Z Z₀ : Addr → Prop) (h₀ : Heap) (Q : Flow → Shared → Prop) (E : Value → Shared → Prop), Good n A → St c env W h₀ Z₀ s.heap Z ρ →
    (∀ fl f ρ' Z' h' tk, Φ f ρ' → RelF h' Z' f fl → St c env W h₀ Z₀ h' Z' ρ' → KeepBut Z s.heap h' → (∀ a, Z' a → Z a ∨ s.heap.get? a = none) → Q fl { s with heap := h', toks := tk }) →
    wpAny c.M A (execs ss env) Q E s
/-- one statement -/
noncomputable def EX1 (c : Cx) (n : Nat) (env : Env) (W : List Str) (st : Stmt) (ρ : PEnv) (Φ : PF → PEnv → Prop) : Prop :=
  ∀ (A : Around) (s : Shared) (Z Z₀ : Addr → Prop) (h₀ : Heap) (Q : Flow → Shared → Prop) (E : Value → Shared → Prop), Good n A → St c env W h₀ Z₀ s.heap Z ρ →
    (∀ fl f ρ' Z' h' tk, Φ f ρ' → RelF h' Z' f fl → St c env W h₀ Z₀ h' Z' ρ' → KeepBut Z s.heap h' → (∀ a, Z' a → Z a ∨ s.heap.get? a = none) → Q fl { s with heap := h', toks := tk }) →
    wpAny c.M A (exec st env) Q E s

theorem KeepBut.trans' {Z Z' : Addr → Prop} {h h' h'' : Heap} (a : KeepBut Z h h') (b : KeepBut Z' h' h'') (k : ∀ a, Z' a → Z a ∨ h.get? a = none) : KeepBut Z h h'' := fun x o q e =>
  b x o (fun z => by rcases k x z with z | z; exact q z; rw [z] at e; cases e) (a x o q e)
theorem new_trans {Z Z' Z'' : Addr → Prop} {h h' : Heap} (kb : KeepBut Z h h') (a : ∀ a, Z' a → Z a ∨ h.get? a = none) (b : ∀ a, Z'' a → Z' a ∨ h'.get? a = none) : ∀ a, Z'' a → Z a ∨ h.get? a = none := fun x q => by
  rcases b x q with q | q
  · exact a x q
  · by_cases z : Z x
    · exact .inl z
    · right
      cases e : h.get? x with
      | none => rfl
      | some o => rw [kb x o z e] at q; cases q

theorem EX.nil {Φ : PF → PEnv → Prop} (h : Φ .next ρ) : EX c n env W [] ρ Φ := fun A s Z Z₀ h₀ Q E g S hq =>
  wpAny_execs_nil (hq _ _ _ Z s.heap s.toks h .next S (fun _ _ _ e => e) (fun _ z => .inl z))
theorem EX.cons {st : Stmt} {rest : List Stmt} {Φ : PF → PEnv → Prop} (h : EX1 c n env W st ρ (fun f ρ' => match f with | .next => EX c n env W rest ρ' Φ | .ret p => Φ (.ret p) ρ')) : EX c n env W (st :: rest) ρ Φ := by
  intro A s Z Z₀ h₀ Q E g S hq
  refine wpAny_execs_cons (h A s Z Z₀ h₀ _ E g S fun fl f ρ' Z' h' tk hf rf S' kb zn => ?_)
  cases rf with
  | next =>
    refine hf A _ Z' Z₀ h₀ Q E g S' fun fl2 f2 ρ2 Z2 h2 tk2 hf2 rf2 S2 kb2 zn2 => ?_
    exact hq fl2 f2 ρ2 Z2 h2 tk2 hf2 rf2 S2 (kb.trans' kb2 zn) (new_trans kb zn zn2)
  | ret r => exact hq _ _ ρ' Z' h' tk hf (.ret r) S' kb zn
theorem EX.weak {ss : List Stmt} {ρ' : PEnv} {Φ : PF → PEnv → Prop} (h : EX c n env W ss ρ' Φ) (k : ∀ x p, ρ'.lookup x = some p → ρ.lookup x = some p) : EX c n env W ss ρ Φ :=
  fun A s Z Z₀ h₀ Q E g S hq => h A s Z Z₀ h₀ Q E g (S.weak k) hq
theorem EX.mono {ss : List Stmt} {Φ Ψ : PF → PEnv → Prop} (h : EX c n env W ss ρ Φ) (k : ∀ f ρ, Φ f ρ → Ψ f ρ) : EX c n env W ss ρ Ψ :=
  fun A s Z Z₀ h₀ Q E g S hq => h A s Z Z₀ h₀ Q E g S fun fl f ρ' Z' h' tk hf => hq fl f ρ' Z' h' tk (k _ _ hf)
theorem EX1.mono {st : Stmt} {Φ Ψ : PF → PEnv → Prop} (h : EX1 c n env W st ρ Φ) (k : ∀ f ρ, Φ f ρ → Ψ f ρ) : EX1 c n env W st ρ Ψ :=
  fun A s Z Z₀ h₀ Q E g S hq => h A s Z Z₀ h₀ Q E g S fun fl f ρ' Z' h' tk hf => hq fl f ρ' Z' h' tk (k _ _ hf)

theorem EX1.assign {x : Str} {xp pos : Pos} {e : Expr} {p : PV} {Φ : PF → PEnv → Prop} (he : EV c n env ρ e p) (hx : Stored env W x) (hp : p.isHot = false) (h : Φ .next (ρ.set x p))
    (hs : swapsWith e (some (.Name x xp)) pos.line env = pure false := by rfl) : EX1 c n env W (.Assign [.Name x xp] e pos) ρ Φ := by
  intro A s Z Z₀ h₀ Q E g S hq
  refine wpAny_Assign_Name (he A s Z g S.baseNow S.fr S.z _ _ fun v h1 t1 k1 r1 => ?_) hs
  refine (S.keeps k1).store (s := { s with heap := h1, toks := t1 }) hx r1 hp fun h2 t2 S2 kb _ => ?_
  exact hq _ _ _ Z h2 t2 h .next S2 ((KeepBut.of k1).trans' kb fun _ z => .inl z) fun _ z => .inl z
theorem EX1.ite {t : Expr} {a o : List Stmt} {pos : Pos} {b : Bool} {Φ : PF → PEnv → Prop} (ht : TV c n env ρ t b) (ha : b = true → EX c n env W a ρ Φ) (ho : b = false → EX c n env W o ρ Φ) :
    EX1 c n env W (.If t a o pos) ρ Φ := by
  intro A s Z Z₀ h₀ Q E g S hq
  refine wpAny_If (ht A s Z g S.baseNow S.fr S.z _ _ fun h1 t1 k1 => ?_)
  cases b with
  | true =>
    simp only [if_true]
    exact ha rfl A _ Z Z₀ h₀ Q E g (S.keeps k1) fun fl f ρ' Z' h' tk hf rf S' kb zn => hq fl f ρ' Z' h' tk hf rf S' ((KeepBut.of k1).trans' kb fun _ z => .inl z) (new_trans (KeepBut.of k1) (fun _ z => .inl z) zn)
  | false =>
    simp only [Bool.false_eq_true, if_false]
    exact ho rfl A _ Z Z₀ h₀ Q E g (S.keeps k1) fun fl f ρ' Z' h' tk hf rf S' kb zn => hq fl f ρ' Z' h' tk hf rf S' ((KeepBut.of k1).trans' kb fun _ z => .inl z) (new_trans (KeepBut.of k1) (fun _ z => .inl z) zn)
theorem EX1.ret {e : Expr} {pos : Pos} {p : PV} {Φ : PF → PEnv → Prop} (he : EV c n env ρ e p) (h : Φ (.ret p) ρ) : EX1 c n env W (.Return (some e) pos) ρ Φ := by
  intro A s Z Z₀ h₀ Q E g S hq
  refine wpAny_Return_some (he A s Z g S.baseNow S.fr S.z _ _ fun v h1 t1 k1 r1 => ?_)
  exact hq _ _ _ Z h1 t1 h (.ret r1) (S.keeps k1) (KeepBut.of k1) fun _ z => .inl z
end Mine
end

/-! PlG -/
section
set_option maxRecDepth 100000
namespace Mine
open PySem PySem.W PyProof.Rows PySem.Calls PySem.Spec

theorem zip_lookup {h : Heap} {Z : Addr → Prop} {x : Str} {p : PV} : ∀ {names : List Str} {ps : List PV} {vs : List Value}, RelL h Z ps vs → (names.zip ps).lookup x = some p → ∃ v, (names.zip vs).lookup x = some v ∧ Rel h Z p v
  | [], _, _, _, e => by simp at e
  | _ :: _, _, _, .nil, e => by simp at e
  | y :: ys, _, _, .cons (v := v) a r, e => by
    simp only [List.zip_cons_cons, List.lookup_cons] at e ⊢
    cases q : x == y with
    | true => rw [q] at e; cases e; exact ⟨v, rfl, a⟩
    | false => rw [q] at e; exact zip_lookup r e

theorem bindL_at {kindOf : Str → Option NameKind} {x : Str} (hk : kindOf x = some .local) : ∀ (binds : List (Str × Value)) (m : Str → Option Value), (binds.map (·.1)).Nodup →
    bindL kindOf binds m x = (binds.lookup x).or (m x)
  | [], m, _ => by simp [bindL]
  | (y, v) :: r, m, hn => by
    have hn' := List.nodup_cons.mp (by simpa using hn : (y :: r.map (·.1)).Nodup)
    unfold bindL
    rw [bindL_at hk r _ hn'.2]
    by_cases hxy : x = y
    · subst hxy
      have hno : r.lookup x = none := by
        rw [List.lookup_eq_none_iff]
        intro q hq
        have : q.1 ≠ x := fun e => hn'.1 (e ▸ List.mem_map_of_mem hq)
        simpa using fun e => this e.symm
      simp [hno, hk]
    · have : (x == y) = false := by simpa using hxy
      simp only [List.lookup_cons, this]
      split <;> simp [hxy]
theorem bindC_at {kindOf : Str → Option NameKind} {x : Str} (hk : kindOf x ≠ some .local) : ∀ (binds : List (Str × Value)) (m : Str → Option Value), (binds.map (·.1)).Nodup →
    bindC kindOf binds m x = (binds.lookup x).or (m x)
  | [], m, _ => by simp [bindC]
  | (y, v) :: r, m, hn => by
    have hn' := List.nodup_cons.mp (by simpa using hn : (y :: r.map (·.1)).Nodup)
    unfold bindC
    rw [bindC_at hk r _ hn'.2]
    by_cases hxy : x = y
    · subst hxy
      have hno : r.lookup x = none := by
        rw [List.lookup_eq_none_iff]
        intro q hq
        have : q.1 ≠ x := fun e => hn'.1 (e ▸ List.mem_map_of_mem hq)
        simpa using fun e => this e.symm
      simp [hno, hk]
    · have : (x == y) = false := by simpa using hxy
      simp only [List.lookup_cons, this]
      split <;> simp [hxy]

theorem lookup_mem {α : Type} : ∀ {l : List (Str × α)} {x : Str} {v : α}, l.lookup x = some v → (x, v) ∈ l
  | (y, u) :: r, x, v, e => by
    rw [List.lookup_cons] at e
    cases q : x == y with
    | true =>
      rw [q] at e
      have : x = y := by simpa using q
      cases e; rw [this]; exact .head _
    | false => rw [q] at e; exact .tail _ (lookup_mem e)
theorem zip_mem_left {α : Type} {names : List Str} {vs : List α} {x : Str} {v : α} (h : (x, v) ∈ names.zip vs) : x ∈ names := (List.of_mem_zip h).1

/-- the frame of a call -/
noncomputable abbrev fnEnv (name : Str) (scope : Scope) (L a : Addr) (cd : Value) : Env :=
  { scope := scope, locals := L, globals := mainGlobals, cells := cellsFrom (L + 1) scope.names [], qual := name ++ ".<locals>.", func := some a, code := cd, frame := some L, builtins := builtinsNs }

structure HasFn (c : Cx) (f : Str) (params : Arguments) (body : List Stmt) (scope : Scope) : Prop where
  here : ∃ d ∈ recsOf c.p, d.name = f ∧ d.params = params ∧ d.body = body ∧ d.scope = scope

variable {c : Cx} {n : Nat}

theorem CALL.of {f : Str} {params : Arguments} {body : List Stmt} {scope : Scope} {names W : List Str} {ps : List PV} {p : PV} (hf : HasFn c f params body scope)
    (hb : ∀ pm code doc vs, vs.length = names.length → bindArgs (docDef f params body scope pm code doc) ⟨vs, []⟩ = pure (names.zip vs)) (hl : ps.length = names.length) (hnd : names.Nodup)
    (hnk : ∀ k, ∀ x ∈ names, scope.names.lookup x = some .local ∨ (scope.names.lookup x = some .cell ∧ ((cellsFrom k scope.names []).lookup x).isSome = true))
    (hW : ∀ k, ∀ x ∈ W, scope.names.lookup x = some .cell → ((cellsFrom k scope.names []).lookup x).isSome = true)
    (hps : ∀ p ∈ ps, p.isHot = false)
    (h : ∀ L a cd, EX c n (fnEnv f scope L a cd) W body (names.zip ps) (fun fl _ => fl = .ret p))
    (hco : scope.isCoroutine = false := by rfl) (hgen : scope.isGenerator = false := by rfl) (hk : scope.kind = .function := by rfl) : CALL c (n + 1) f ps p := by
  intro a ha A s Z vs g b z r Q E hq
  obtain ⟨d, hd, rfl, rfl, rfl, rfl⟩ := hf.here
  obtain ⟨a', o, pm, code, doc, h1, h2, h3, h4⟩ := b.fn d hd
  have ea : a' = a := by rw [ha] at h1; cases h1; rfl
  subst ea
  have hvl : vs.length = names.length := by rw [← r.length]; exact hl
  have hkeys : ((names.zip vs).map (·.1)) = names := by rw [List.map_fst_zip]; omega
  refine wpAny_call (codeAny_call_cells (fd := docDef d.name d.params d.body d.scope pm code doc) (body := d.body) (binds := names.zip vs) ?_ h2 h3 b.nolimit h4 rfl (hb pm code doc vs hvl) rfl ?_ ?_ hco hgen hk)
  · have := g.depth
    show A.depth < 1000
    omega
  · intro x hx
    exact hnk _ x.1 (zip_mem_left (v := x.2) hx)
  · intro s₁ I
    have eE : callEnvC (docDef d.name d.params d.body d.scope pm code doc) s.heap.objs.size a' = fnEnv d.name d.scope s.heap.objs.size a' code := rfl
    rw [eE] at I ⊢
    obtain ⟨H, tk, rfl, hkeep⟩ := I.done
    have Icell := I.cell
    have Iab := I.above
    have Iap := I.apart
    have Ins := I.toInCall.ns
    dsimp only at Ins Icell Iap Iab
    have fresh : ∀ x, s.heap.objs.size ≤ x → s.heap.get? x = none := fun x hx => by
      cases e : s.heap.get? x with
      | none => rfl
      | some o => exact absurd (Heap.lt_size e) (Nat.not_lt.mpr hx)
    have hbs : ((names.zip vs).map (·.1)).Nodup := hkeys.symm ▸ hnd
    let Z' : Addr → Prop := fun b => Z b ∨ b = s.heap.objs.size ∨ ∃ x, (cellsFrom (s.heap.objs.size + 1) d.scope.names []).lookup x = some b
    have rz : RelL H Z' ps vs := (r.zone (Z' := Z') fun b o e q => by
      rcases q with q | rfl | ⟨x, q⟩
      · exact q
      · exact absurd (Heap.lt_size e) (Nat.lt_irrefl _)
      · exact absurd (Heap.lt_size e) (Nat.not_lt.mpr (Nat.le_of_lt (Iab x b (lookup_mem q))))).keep hkeep
    have S : St c (fnEnv d.name d.scope s.heap.objs.size a' code) W s.heap Z H Z' (names.zip ps) := by
      refine ⟨b, hkeep, ⟨⟨hk, rfl, rfl, fun x y q e1 e2 => name_of_addr Iap (lookup_mem e1) (lookup_mem e2)⟩, fun x q e hq => ?_⟩, ⟨⟨_, Ins⟩, fresh _ (Nat.le_refl _), .inr (.inl rfl), fun x hx hxc => ?_, fun x y q e1 e2 => name_of_addr Iap (lookup_mem e1) (lookup_mem e2)⟩, fun q hz => ?_, fun q hz => .inl hz, z, fun x l e => ?_⟩
      · obtain ⟨v, e1, e2⟩ := zip_lookup (names := names) rz e
        refine ⟨v, ?_, e2⟩
        have hxn : x ∈ names := zip_mem_left (lookup_mem e1)
        rcases hnk (s.heap.objs.size + 1) x hxn with hl | ⟨hc, hcs⟩
        · exact .inl ⟨hl, _, Ins, by rw [bindL_at (kindOf := (fnEnv d.name d.scope s.heap.objs.size a' code).kindOf) hl _ _ hbs, e1]; rfl⟩
        · obtain ⟨q, hq'⟩ := Option.isSome_iff_exists.mp hcs
          have := Icell x q hq'
          rw [bindC_at (kindOf := (fnEnv d.name d.scope s.heap.objs.size a' code).kindOf) (by show d.scope.names.lookup x ≠ some .local; rw [hc]; decide) _ _ hbs, e1] at this
          exact .inr ⟨.inl hc, q, hq', this⟩
      · obtain ⟨q, hq'⟩ := Option.isSome_iff_exists.mp (hW (s.heap.objs.size + 1) x hx hxc)
        exact ⟨q, _, hq', Icell x q hq', fresh q (Nat.le_of_lt (Iab x q (lookup_mem hq'))), .inr (.inr ⟨x, hq'⟩)⟩
      · rcases hz with hz | rfl | ⟨x, hz⟩
        · obtain ⟨o, e⟩ := z q hz; exact ⟨o, hkeep _ _ e⟩
        · obtain ⟨o, _, _, e, _⟩ := Ins; exact ⟨o, e⟩
        · obtain ⟨o, e, _⟩ := Icell x q hz; exact ⟨o, e⟩
      · have := hps _ (List.of_mem_zip (lookup_mem e)).2
        cases this
    have gA : Good n (A.deeper (fnEnv d.name d.scope s.heap.objs.size a' code)) := ⟨g.handled, by have := g.depth; show A.depth + 1 + n < 900; omega, by have := g.units; show A.units + 3 + 3 * n < 1000; omega⟩
    refine h s.heap.objs.size a' code _ _ Z' Z s.heap _ _ gA S fun fl f ρ' Z'' h' tk' hf rf S' kb zn => ?_
    subst hf
    cases rf with
    | ret r' => exact hq _ h' tk' S'.keep (r'.zone fun q o e z => S'.z0 q z)
end Mine
end

/-! PlH -/
section
set_option maxRecDepth 100000
namespace Mine
open PySem PySem.W PyProof.Rows PySem.Calls PySem.Spec

/-- an iterator's record: no list, no tuple, no dict, no cell -/
noncomputable def IterObj (h : Heap) (b : Addr) : Prop := ∃ o fs, h.get? b = some o ∧ o.data = .fields fs

mutual
theorem Rel.move {h h' : Heap} {Z Z' : Addr → Prop} {wr : List Addr} (k : ∀ b o, ¬ Z b → b ∉ wr → h.get? b = some o → h'.get? b = some o) (hw : ∀ b ∈ wr, IterObj h b)
    (zn : ∀ a, Z' a → Z a ∨ h.get? a = none) : ∀ {p : PV} {v : Value}, Rel h Z p v → Rel h' Z' p v
  | _, _, .none => .none
  | _, _, .bool b => .bool b
  | _, _, .int i t => .int i t
  | _, _, .flt x t => .flt x t
  | _, _, .str x t => .str x t
  | _, _, .tstr x t => .tstr x t
  | _, _, .list (a := a) z l r => by
    obtain ⟨m, e⟩ := id l
    have hnw : a ∉ wr := fun hm => by obtain ⟨o', fs, e', hd'⟩ := hw a hm; rw [e] at e'; cases e'; cases hd'
    exact .list (fun q => by rcases zn a q with q | q; exact z q; rw [e] at q; cases q) ⟨m, k a _ z hnw e⟩ (RelL.move k hw zn r)
  | _, _, .tup (a := a) z l r => by
    obtain ⟨o, e, hc, m, hd⟩ := id l
    have hnw : a ∉ wr := fun hm => by obtain ⟨o', fs, e', hd'⟩ := hw a hm; rw [e] at e'; cases e'; rw [hd] at hd'; cases hd'
    exact .tup (fun q => by rcases zn a q with q | q; exact z q; rw [e] at q; cases q) ⟨o, k a o z hnw e, hc, m, hd⟩ (RelL.move k hw zn r)
theorem RelL.move {h h' : Heap} {Z Z' : Addr → Prop} {wr : List Addr} (k : ∀ b o, ¬ Z b → b ∉ wr → h.get? b = some o → h'.get? b = some o) (hw : ∀ b ∈ wr, IterObj h b)
    (zn : ∀ a, Z' a → Z a ∨ h.get? a = none) : ∀ {ps : List PV} {vs : List Value}, RelL h Z ps vs → RelL h' Z' ps vs
  | _, _, .nil => .nil
  | _, _, .cons a r => .cons (Rel.move k hw zn a) (RelL.move k hw zn r)
end

theorem Rel.cold {h : Heap} {Z : Addr → Prop} : ∀ {p : PV} {v : Value}, Rel h Z p v → p.isHot = false
  | _, _, .none => rfl
  | _, _, .bool _ => rfl
  | _, _, .int _ _ => rfl
  | _, _, .flt _ _ => rfl
  | _, _, .str _ _ => rfl
  | _, _, .tstr _ _ => rfl
  | _, _, .list _ _ _ => rfl
  | _, _, .tup _ _ _ => rfl

variable {c : Cx} {n : Nat} {env : Env} {W : List Str} {ρ : PEnv} {h₀ h : Heap} {Z Z₀ : Addr → Prop}

/-- iterators have gone on, nothing else -/
theorem St.iter (S : St c env W h₀ Z₀ h Z ρ) {h' : Heap} {wr : List Addr} (k : ∀ b o, b ∉ wr → h.get? b = some o → h'.get? b = some o) (hw : ∀ b ∈ wr, IterObj h b) (hw' : ∀ b ∈ wr, ¬ Z b)
    (hn : ∀ b ∈ wr, h₀.get? b = none) : St c env W h₀ Z₀ h' Z ρ := by
  have offD : ∀ {a m}, h.Ns a m → a ∉ wr := fun x hm => by
    obtain ⟨o, fs, e, hd⟩ := hw _ hm
    obtain ⟨es, ep, d'⟩ := Ns.dict x e
    rw [hd] at d'; cases d'
  have offC : ∀ {a v}, h.IsCell a v → a ∉ wr := fun ⟨o, e, hd⟩ hm => by
    obtain ⟨o', fs, e', hd'⟩ := hw _ hm
    rw [e] at e'; cases e'; rw [hd] at hd'; cases hd'
  have hold : ∀ y u, Holds env h y u → Holds env h' y u := by
    rintro y u (⟨k1, m, n', e⟩ | ⟨k1, b, e1, e2⟩)
    · exact .inl ⟨k1, m, n'.at' fun o e => k _ _ (offD n') e, e⟩
    · have := offC e2
      obtain ⟨o, e, hd⟩ := e2
      exact .inr ⟨k1, b, e1, o, k _ _ this e, hd⟩
  have mv : ∀ {p v}, Rel h Z p v → Rel h' Z p v := fun r => r.move (fun b o _ q e => k b o q e) hw fun a z => .inl z
  have mvL : ∀ {p v}, RelL h Z p v → RelL h' Z p v := fun r => r.move (fun b o _ q e => k b o q e) hw fun a z => .inl z
  refine ⟨S.base, fun b o e => k b o (fun q => by rw [hn b q] at e; cases e) (S.keep b o e), ⟨S.fr.ok, fun x p e q => ?_⟩, { S.wr with ns := ?_, cell := fun x hx hk => ?_ }, fun a q => ?_, S.z0, S.zn, fun x l e => ?_⟩
  · obtain ⟨v, e1, e2⟩ := S.fr.vars x p e q
    exact ⟨v, hold x v e1, mv e2⟩
  · obtain ⟨m, hm⟩ := S.wr.ns
    exact ⟨m, hm.at' fun o e => k _ _ (offD hm) e⟩
  · obtain ⟨a, v, e1, e2, e3⟩ := S.wr.cell x hx hk
    have := offC e2
    obtain ⟨o, e, hd⟩ := e2
    exact ⟨a, v, e1, ⟨o, k _ _ this e, hd⟩, e3⟩
  · by_cases hm : a ∈ wr
    · exact absurd q (hw' a hm)
    · obtain ⟨o, e⟩ := S.z a q; exact ⟨o, k a o hm e⟩
  · obtain ⟨a, vs, e1, e2, e3, ⟨m, e4⟩, e5⟩ := S.hots x l e
    have hm : a ∉ wr := fun hm => by obtain ⟨o', fs, e', hd'⟩ := hw a hm; rw [e4] at e'; cases e'; cases hd'
    exact ⟨a, vs, hold x _ e1, e2, e3, ⟨m, k _ _ hm e4⟩, mvL e5⟩

/-- an iterator over xs -/
structure Iter (c : Cx) (h : Heap) (Z : Addr → Prop) (xs : List PV) (I : Addr) (fp wr : List Addr) (P : Nat → Value → Prop) (S : Nat → Heap → Prop) : Prop where
  walks : ∀ A' : Around, A'.handled = none → Walks c.prog c.w A' I fp wr xs.length P S
  start : S 0 h
  there : ∀ b ∈ fp, ∃ o, h.get? b = some o
  cold : ∀ b ∈ fp, ¬ Z b
  obj : ∀ i h, S i h → ∀ b ∈ wr, IterObj h b
  item : ∀ i v, P i v → ∃ p, xs[i]? = some p ∧ Rel h Z p v

noncomputable def IT (c : Cx) (n : Nat) (env : Env) (ρ : PEnv) (e : Expr) (xs : List PV) : Prop :=
  ∀ (A : Around) (s : Shared) (Z : Addr → Prop) (Q : Value → Shared → Prop) (E : Value → Shared → Prop), Good n A → c.Base s.heap → FrameOk env s.heap Z ρ → ZOk Z s.heap →
    (∀ I fp wr P S h' tk, Iter c h' Z xs I fp wr P S → Keep s.heap h' → (∀ b ∈ wr, s.heap.get? b = none) → Q (.ref I) { s with heap := h', toks := tk }) →
    wpAny c.M A (eval e env) (fun x s₁ => wpAny c.M A (pyIter x) Q E s₁) E s

theorem fresh_none {h : Heap} {a : Addr} (q : h.objs.size ≤ a) : h.get? a = none := by
  cases e : h.get? a with
  | none => rfl
  | some o => exact absurd (Heap.lt_size e) (Nat.not_lt.mpr q)

theorem IT.list {e : Expr} {xs : List PV} (he : EV c n env ρ e (.list xs)) : IT c n env ρ e xs := by
  intro A s Z Q E g b F z h
  refine he A s Z g b F z _ _ fun v h1 t1 k1 r1 => ?_
  cases r1 with
  | list za la ra =>
    rename_i a vs
    have la := la.isList
    obtain ⟨o, ho, hc, m, hd⟩ := id la
    have hlt := Heap.lt_size ho
    have hne : a ≠ h1.objs.size := Nat.ne_of_lt hlt
    refine wpAny_pyIter_list la ?_
    have kp : Keep h1 (h1.push { cls := .type "list_iterator", data := .fields #[.ref a, .int 0 0] }) := fun b o e => Heap.get?_push_of_some _ e
    refine h h1.objs.size [h1.objs.size, a] [h1.objs.size] (fun i v => vs.toArray[i]? = some v) (fun i h => h.IsListIter h1.objs.size a i ∧ h.IsList a vs.toArray) _ t1 ⟨fun A' hA => ?_, ⟨⟨_, Heap.get?_push_size _ rfl, rfl, rfl⟩, la.push _⟩, ?_, ?_, ?_, ?_⟩ (k1.trans kp) ?_
    · have el : xs.length = vs.toArray.size := by rw [List.size_toArray, ra.length]
      rw [el]
      exact Walks.list (prog := c.prog) (w := c.w) hA h1.objs.size a hne vs.toArray
    · intro b hb
      rcases List.mem_cons.mp hb with rfl | hb
      · exact ⟨_, Heap.get?_push_size _ rfl⟩
      · rw [List.mem_singleton.mp hb]; exact ⟨o, kp _ _ ho⟩
    · intro b hb
      rcases List.mem_cons.mp hb with rfl | hb
      · exact not_hot_new (z.keep k1)
      · rw [List.mem_singleton.mp hb]; exact za
    · rintro i hp ⟨⟨o', e', _, hd'⟩, _⟩ b hb
      rw [List.mem_singleton.mp hb]; exact ⟨o', _, e', hd'⟩
    · intro i v hv
      have : vs[i]? = some v := by simpa using hv
      obtain ⟨p, e1, e2⟩ := ra.getV this
      exact ⟨p, e1, e2.keep kp⟩
    · intro b hb
      rw [List.mem_singleton.mp hb]
      cases q : s.heap.get? h1.objs.size with
      | none => rfl
      | some o => exact absurd (Heap.lt_size (k1 _ _ q)) (Nat.lt_irrefl _)
theorem IT.tup {e : Expr} {xs : List PV} (he : EV c n env ρ e (.tup xs)) : IT c n env ρ e xs := by
  intro A s Z Q E g b F z h
  refine he A s Z g b F z _ _ fun v h1 t1 k1 r1 => ?_
  cases r1 with
  | tup za la ra =>
    rename_i a vs
    obtain ⟨o, ho, hc, m, hd⟩ := id la
    have hlt := Heap.lt_size ho
    have hne : a ≠ h1.objs.size := Nat.ne_of_lt hlt
    refine wpAny_pyIter_tuple la ?_
    have kp : ∀ ob, Keep h1 (h1.push ob) := fun ob b o e => Heap.get?_push_of_some _ e
    refine h h1.objs.size [h1.objs.size, a] [h1.objs.size] (fun i v => vs.toArray[i]? = some v) (fun i h => h.IsTupleIter h1.objs.size a i ∧ h.IsTuple a vs.toArray) _ t1 ⟨fun A' hA => ?_, ⟨⟨_, Heap.get?_push_size _ rfl, rfl, rfl⟩, la.push _⟩, ?_, ?_, ?_, ?_⟩ (k1.trans (kp _)) ?_
    · have el : xs.length = vs.toArray.size := by rw [List.size_toArray, ra.length]
      rw [el]
      exact Walks.tuple (prog := c.prog) (w := c.w) hA h1.objs.size a hne vs.toArray
    · intro b hb
      rcases List.mem_cons.mp hb with rfl | hb
      · exact ⟨_, Heap.get?_push_size _ rfl⟩
      · rw [List.mem_singleton.mp hb]; exact ⟨o, kp _ _ _ ho⟩
    · intro b hb
      rcases List.mem_cons.mp hb with rfl | hb
      · exact not_hot_new (z.keep k1)
      · rw [List.mem_singleton.mp hb]; exact za
    · rintro i hp ⟨⟨o', e', _, hd'⟩, _⟩ b hb
      rw [List.mem_singleton.mp hb]; exact ⟨o', _, e', hd'⟩
    · intro i v hv
      have : vs[i]? = some v := by simpa using hv
      obtain ⟨p, e1, e2⟩ := ra.getV this
      exact ⟨p, e1, e2.keep (kp _)⟩
    · intro b hb
      rw [List.mem_singleton.mp hb]
      cases q : s.heap.get? h1.objs.size with
      | none => rfl
      | some o => exact absurd (Heap.lt_size (k1 _ _ q)) (Nat.lt_irrefl _)

/-- a text's signs -/
noncomputable def signs (x : Str) : List PV := x.cps.toList.map fun k => .str ⟨#[k]⟩
theorem IT.str {e : Expr} {x : Str} (he : EV c n env ρ e (.str x)) : IT c n env ρ e (signs x) := by
  intro A s Z Q E g b F z h
  refine he A s Z g b F z _ _ fun v h1 t1 k1 r1 => ?_
  cases r1 with
  | str _ t =>
    have kp : ∀ ob, Keep h1 (h1.push ob) := fun ob b o e => Heap.get?_push_of_some _ e
    have hlen : x.cps.size = (signs x).length := by simp [signs]
    have item : ∀ (h' : Heap) i v, SignAt x i v → ∃ p, (signs x)[i]? = some p ∧ Rel h' Z p v := by
      rintro h' i v ⟨k, u, e1, rfl⟩
      exact ⟨.str ⟨#[k]⟩, by simp [signs, e1], .str _ _⟩
    have new : ∀ b ∈ [h1.objs.size], s.heap.get? b = none := by
      intro b hb
      rw [List.mem_singleton.mp hb]
      cases q : s.heap.get? h1.objs.size with
      | none => rfl
      | some o => exact absurd (Heap.lt_size (k1 _ _ q)) (Nat.lt_irrefl _)
    cases ha : x.cps.all (· < 128)
    · refine wpAny_pyIter_wide ha (h h1.objs.size [h1.objs.size] [h1.objs.size] (SignAt x) (fun i h => h.IsStrIter h1.objs.size "str_iterator" x t i) _ t1 ⟨fun A' hA => ?_, ⟨_, Heap.get?_push_size _ rfl, rfl, rfl⟩, ?_, ?_, ?_, item _⟩ (k1.trans (kp _)) new)
      · rw [← hlen]; exact Walks.strWide hA _ x t
      · intro b hb; rw [List.mem_singleton.mp hb]; exact ⟨_, Heap.get?_push_size _ rfl⟩
      · intro b hb; rw [List.mem_singleton.mp hb]; exact not_hot_new (z.keep k1)
      · rintro i hp ⟨o', e', _, hd'⟩ b hb
        rw [List.mem_singleton.mp hb]; exact ⟨o', _, e', hd'⟩
    · refine wpAny_pyIter_ascii ha (h h1.objs.size [h1.objs.size] [h1.objs.size] (SignAt x) (fun i h => h.IsStrIter h1.objs.size "str_ascii_iterator" x t i) _ t1 ⟨fun A' hA => ?_, ⟨_, Heap.get?_push_size _ rfl, rfl, rfl⟩, ?_, ?_, ?_, item _⟩ (k1.trans (kp _)) new)
      · rw [← hlen]; exact Walks.strAscii hA _ x t
      · intro b hb; rw [List.mem_singleton.mp hb]; exact ⟨_, Heap.get?_push_size _ rfl⟩
      · intro b hb; rw [List.mem_singleton.mp hb]; exact not_hot_new (z.keep k1)
      · rintro i hp ⟨o', e', _, hd'⟩ b hb
        rw [List.mem_singleton.mp hb]; exact ⟨o', _, e', hd'⟩

/-- the ints below m -/
noncomputable def below (m : Nat) : List PV := (List.range m).map fun (i : Nat) => .int (i : Int)
theorem IT.range {f : Str} {e : Expr} {fp pos : Pos} {m : Int} (he : EV c n env ρ e (.int m)) (h0 : 0 ≤ m) (hm : m < 2 ^ 20)
    (hx : env.kindOf f = some .globalImplicit) (hg : c.mg f = none) (hb : bootBuiltins f = some (.type "range")) (hn : f ≠ "__name__" := by decide)
    (hd : (f == ("__debug__" : Str)) = false := by decide) (hs : isStarred e = false := by rfl) : IT c n env ρ (.Call (.Name f fp) [e] [] pos) (below m.toNat) := by
  intro A s Z Q E g b F z h
  show wpAny _ _ (eval (.Name f fp) env >>= fun v => callWith pos v [] (backTo pos (starEach [e] env)) []) _ _ _
  refine wpAny_bind (wp_nameB (c := c) hx hg hb hn hd b F.ok ?_)
  have hs1 : ([e].all fun e => !isStarred e) = true := by simp [hs]
  have hvl : EVL c n env ρ [e] [.int m] := ⟨he, trivial⟩
  refine PySem.callWith_type (noStar hs1) (hvl.args hs1 g b F z fun vs h1 t1 k1 r1 => ?_)
  cases r1 with | cons r1 r2 => cases r2; cases r1 with
  | int _ t =>
    refine call_range_1 ?_
    have kp : ∀ (hh : Heap) ob, Keep hh (hh.push ob) := fun hh ob b o e => Heap.get?_push_of_some _ e
    have esz : Builtin.Range.rangeSize 0 m 1 = m := by
      unfold Builtin.Range.rangeSize
      by_cases q : m = 0
      · subst q; rfl
      · have : 0 < m := by omega
        simp
        omega
    have hsm : Builtin.Range.small 0 m 1 = true := by
      unfold Builtin.Range.small
      rw [esz]
      simp [Builtin.Range.rangeFitsLong]
      omega
    refine wpAny_pyIter_range (a := 0) (b := m) (c := 1) (Heap.get?_push_size _ rfl) hsm ?_
    rw [esz]
    dsimp only
    generalize hH : h1.push { cls := .type "range", data := .fields #[.int 0 t1, .int m t, .int 1 (t1 + 1)] } = H
    have kH : Keep h1 H := hH ▸ kp _ _
    refine h H.objs.size [H.objs.size] [H.objs.size] (fun i v => ∃ t, i < m.toNat ∧ v = .int (i : Int) t) (fun i h => IsRangeIter h H.objs.size (0 + (i : Nat) * 1) ((m.toNat : Int) - (i : Nat)) 1) _ _ ⟨fun A' hA => ?_, ?_, ?_, ?_, ?_, ?_⟩ ((k1.trans kH).trans (kp _ _)) ?_
    · have W := (Walks.range (prog := c.prog) (w := c.w) hA H.objs.size 0 1 m.toNat).bound
      have el : (below m.toNat).length = m.toNat := by simp [below]
      rw [el]
      refine ⟨W.sub, W.frame, fun i s Q E hi st hQ => W.item i s Q E hi st fun v h' tk hP => hQ v h' tk ?_, W.done, W.self⟩
      obtain ⟨h1, t, rfl⟩ := hP
      exact ⟨t, h1, by simp⟩
    · show IsRangeIter _ _ _ _ _
      have e1 : (0 : Int) + ((0 : Nat) : Int) * 1 = 0 := by simp
      have e2 : ((m.toNat : Int) - ((0 : Nat) : Int)) = m := by omega
      rw [e1, e2]
      exact Heap.get?_push_size _ rfl
    · intro b hb; rw [List.mem_singleton.mp hb]; exact ⟨_, Heap.get?_push_size _ rfl⟩
    · intro b hb; rw [List.mem_singleton.mp hb]; exact not_hot_new ((z.keep k1).keep kH)
    · intro i hp e' b hb
      rw [List.mem_singleton.mp hb]; exact ⟨_, _, e', rfl⟩
    · rintro i v ⟨t, hi, rfl⟩
      exact ⟨.int (i : Int), by simp [below, hi], .int _ _⟩
    · intro b hb
      rw [List.mem_singleton.mp hb]
      cases q : s.heap.get? H.objs.size with
      | none => rfl
      | some o => exact absurd (Heap.lt_size (kH _ _ (k1 _ _ q))) (Nat.lt_irrefl _)
end Mine
end

/-! PlI -/
section
set_option maxRecDepth 100000
namespace Mine
open PySem PySem.W PyProof.Rows PySem.Calls PySem.Spec
variable {c : Cx} {n : Nat} {env : Env} {W : List Str} {ρ : PEnv} {h₀ h : Heap} {Z Z₀ : Addr → Prop}

theorem EX1.for {x : Str} {xp pos : Pos} {iter : Expr} {body : List Stmt} {xs : List PV} {Φ : PF → PEnv → Prop} (hit : IT c n env ρ iter xs) (hx : Stored env W x) (Inv : Nat → PEnv → Prop) (h0 : Inv 0 ρ)
    (turn : ∀ i p ρ₁, xs[i]? = some p → p.isHot = false → Inv i ρ₁ → EX c n env W body (ρ₁.set x p) (fun f ρ₂ => match f with | .next => Inv (i + 1) ρ₂ | .ret q => Φ (.ret q) ρ₂))
    (done : ∀ ρ₁, Inv xs.length ρ₁ → Φ .next ρ₁) (hs : ∀ v, foldedSetIterable iter env v = pure v := by intro _; rfl) : EX1 c n env W (.For (.Name x xp) iter body [] pos) ρ Φ := by
  intro A s Z Z₀ h₀ Q E g S hq
  refine wpAny_For (hit A s Z _ _ g S.baseNow S.fr S.z fun I fp wr P R hI tI it kI hwr => ?_) hs
  have W₁ := it.walks A g.h
  have S₁ := S.keeps kI
  have hnew : ∀ b ∈ wr, h₀.get? b = none := fun b hb => by
    cases q : h₀.get? b with
    | none => rfl
    | some o => have := S.keep _ _ q; rw [hwr b hb] at this; cases this
  refine codeAny_forLoop (fun k s' => ∃ i ρ₁ Z₁ h' tk, s' = { s with heap := h', toks := tk } ∧ i ≤ xs.length ∧ k = xs.length - i ∧ Inv i ρ₁ ∧ R i h' ∧ St c env W h₀ Z₀ h' Z₁ ρ₁ ∧
      KeepBut Z s.heap h' ∧ (∀ b o, ¬ Z b → b ∉ wr → hI.get? b = some o → h'.get? b = some o) ∧ (∀ a, Z₁ a → Z a ∨ hI.get? a = none)) ?_ xs.length ?_
  · rintro k s' ⟨i, ρ₁, Z₁, h', tk, rfl, hi, rfl, hinv, hR, S', kb, kI', zn⟩
    have coldF : ∀ b ∈ fp, ¬ Z₁ b := fun b hb q => by
      rcases zn b q with q | q
      · exact it.cold b hb q
      · obtain ⟨o, e⟩ := it.there b hb; rw [e] at q; cases q
    by_cases hlt : i < xs.length
    · refine W₁.item i _ _ _ hlt hR fun v h2 t2 hP hR2 k2 => ?_
      have S2 : St c env W h₀ Z₀ h2 Z₁ ρ₁ := S'.iter k2 (it.obj _ _ hR) (fun b hb => coldF b (W₁.sub b hb)) hnew
      obtain ⟨p, hp, rp⟩ := it.item i v hP
      have kI2 : ∀ b o, ¬ Z b → b ∉ wr → hI.get? b = some o → h2.get? b = some o := fun b o q1 q2 e => k2 b o q2 (kI' b o q1 q2 e)
      have rp2 : Rel h2 Z₁ p v := rp.move kI2 (it.obj _ _ it.start) zn
      refine wpAny_assign_Name ?_
      refine St.store (s := { s with heap := h2, toks := t2 }) S2 hx rp2 rp.cold fun h3 t3 S3 kb3 _ => ?_
      have hR3 : R (i + 1) h3 := W₁.frame _ _ _ hR2 fun b hb o e => kb3 b o (coldF b hb) e
      refine turn i p ρ₁ hp rp.cold hinv A _ Z₁ Z₀ h₀ _ _ g S3 fun fl f ρ2 Z2 h4 t4 hf rf S4 kb4 zn4 => ?_
      have kbs : KeepBut Z s.heap h2 := fun b o q e => k2 b o (fun hm => by rw [hwr b hm] at e; cases e) (kb b o q e)
      have znS : ∀ a, Z₁ a → Z a ∨ s.heap.get? a = none := fun a q => by
        rcases zn a q with q | q
        · exact .inl q
        · right
          cases e : s.heap.get? a with
          | none => rfl
          | some o => rw [kI _ _ e] at q; cases q
      have kb24 : KeepBut Z₁ h2 h4 := kb3.trans' kb4 fun _ z => .inl z
      have kbs4 : KeepBut Z s.heap h4 := kbs.trans' kb24 znS
      have zn24 : ∀ a, Z2 a → Z₁ a ∨ h2.get? a = none := new_trans kb3 (fun _ z => .inl z) zn4
      cases rf with
      | next =>
        refine ⟨xs.length - (i + 1), by omega, i + 1, ρ2, Z2, h4, t4, rfl, by omega, rfl, hf, W₁.frame _ _ _ hR3 fun b hb o e => kb4 b o (coldF b hb) e, S4, kbs4, fun b o q1 q2 e => ?_, fun a q => ?_⟩
        · exact kb24 b o (fun z => by rcases zn b z with z | z; exact q1 z; rw [e] at z; cases z) (kI2 b o q1 q2 e)
        · rcases zn24 a q with q | q
          · exact zn a q
          · by_cases hz : Z a
            · exact .inl hz
            · right
              cases e : hI.get? a with
              | none => rfl
              | some o =>
                by_cases hm : a ∈ wr
                · obtain ⟨o', fs, e', _⟩ := it.obj _ _ hR2 a hm; rw [e'] at q; cases q
                · rw [kI2 a o hz hm e] at q; cases q
      | ret r =>
        refine hq _ _ ρ2 Z2 h4 t4 hf (.ret r) S4 kbs4 fun a q => ?_
        rcases zn24 a q with q | q
        · exact znS a q
        · by_cases hz : Z a
          · exact .inl hz
          · right
            cases e : s.heap.get? a with
            | none => rfl
            | some o => rw [kbs a o hz e] at q; cases q
    · have hin : i = xs.length := by omega
      subst hin
      refine W₁.done _ _ _ hR fun h2 t2 k2 => ?_
      refine wpAny_execs_nil ?_
      have S2 : St c env W h₀ Z₀ h2 Z₁ ρ₁ := S'.iter k2 (it.obj _ _ hR) (fun b hb => coldF b (W₁.sub b hb)) hnew
      have kbs : KeepBut Z s.heap h2 := fun b o q e => k2 b o (fun hm => by rw [hwr b hm] at e; cases e) (kb b o q e)
      refine hq _ _ ρ₁ Z₁ h2 t2 (done ρ₁ hinv) .next S2 kbs fun a q => ?_
      rcases zn a q with q | q
      · exact .inl q
      · right
        cases e : s.heap.get? a with
        | none => rfl
        | some o => rw [kI _ _ e] at q; cases q
  · exact ⟨0, ρ, Z, hI, tI, rfl, Nat.zero_le _, by simp, h0, it.start, S₁, KeepBut.of kI, fun _ _ _ _ e => e, fun _ z => .inl z⟩
end Mine
end

/-! PlJ -/
section
set_option maxRecDepth 100000
namespace Mine
open PySem PySem.W PyProof.Rows PySem.Calls PySem.Spec

/-! Comprehensions. -/
noncomputable def ifsT (ifs : List Expr) (env : Env) : Sem Bool := forIn ifs true fun c r => if r = true then do let ok ← isTrue c env (eval c env); pure (ForInStep.yield ok) else pure (ForInStep.yield r)
noncomputable def emitT (elt : Expr) (acc : Value) (env : Env) (k : Sem Fin) : Sem Fin := do
  (do let _ ← call (.builtin "list.append") [acc, ← eval elt env] : Sem Unit)
  k
noncomputable def innerT (e : Expr) (it2 : Expr) (acc : Value) (env : Env) (k : Sem Fin) : Sem Fin := do
  let x ← eval it2 env
  standAt it2.pos
  let x ← foldedSetIterable it2 env x
  let _ ← runOwn (.compStart e 1 (← holding [x] (pyIter x)) acc env) env
  k
noncomputable def turnT (e : Expr) (d : Nat) (ip : Pos) (tg : Expr) (ifs : List Expr) (tail : Sem Fin → Sem Fin) (it acc : Value) (env : Env) : Sem Fin := do
  standAt ip
  match ← pyNext it with
  | none => pure (.done .next)
  | some v =>
    letOwnedTupleGo tg it v
    assign tg env v
    if ← ifsT ifs env then
      tail (again (.compLoop e d it acc env))
    else again (.compLoop e d it acc env)

theorem turn_one (elt tg iter : Expr) (ifs : List Expr) (scope : Scope) (pos : Pos) (it acc : Value) (env : Env) :
    compTurn (.ListComp elt [⟨tg, iter, ifs, 0⟩] scope pos) 0 it acc env = turnT (.ListComp elt [⟨tg, iter, ifs, 0⟩] scope pos) 0 iter.pos tg ifs (emitT elt acc env) it acc env := by rfl
theorem turn_inner (elt tg iter tg2 iter2 : Expr) (ifs ifs2 : List Expr) (scope : Scope) (pos : Pos) (it acc : Value) (env : Env) :
    compTurn (.ListComp elt [⟨tg, iter, ifs, 0⟩, ⟨tg2, iter2, ifs2, 0⟩] scope pos) 1 it acc env =
      turnT (.ListComp elt [⟨tg, iter, ifs, 0⟩, ⟨tg2, iter2, ifs2, 0⟩] scope pos) 1 iter2.pos tg2 ifs2 (emitT elt acc env) it acc env := by rfl
theorem turn_outer (elt tg iter tg2 iter2 : Expr) (ifs ifs2 : List Expr) (scope : Scope) (pos : Pos) (it acc : Value) (env : Env) :
    compTurn (.ListComp elt [⟨tg, iter, ifs, 0⟩, ⟨tg2, iter2, ifs2, 0⟩] scope pos) 0 it acc env =
      turnT (.ListComp elt [⟨tg, iter, ifs, 0⟩, ⟨tg2, iter2, ifs2, 0⟩] scope pos) 0 iter.pos tg ifs (innerT (.ListComp elt [⟨tg, iter, ifs, 0⟩, ⟨tg2, iter2, ifs2, 0⟩] scope pos) iter2 acc env) it acc env := by rfl

variable {c : Cx} {n : Nat} {env : Env} {W : List Str} {ρ : PEnv} {h₀ h : Heap} {Z Z₀ : Addr → Prop}

/-- the list that a comprehension fills -/
structure Acc (h₀ h : Heap) (Z : Addr → Prop) (D : Addr) (done : List PV) : Prop where
  here : ∃ vs, h.PlainList D vs.toArray ∧ RelL h Z done vs
  hot : Z D
  new : h₀.get? D = none
theorem Acc.keep {h' : Heap} {D : Addr} {done : List PV} (a : Acc h₀ h Z D done) (k : Keep h h') : Acc h₀ h' Z D done :=
  { a with here := let ⟨vs, ⟨m, e⟩, r⟩ := a.here; ⟨vs, ⟨m, k _ _ e⟩, r.keep k⟩ }
theorem Acc.iter {h' : Heap} {D : Addr} {done : List PV} {wr : List Addr} (a : Acc h₀ h Z D done) (k : ∀ b o, b ∉ wr → h.get? b = some o → h'.get? b = some o) (hw : ∀ b ∈ wr, IterObj h b) : Acc h₀ h' Z D done :=
  { a with here := (by
      obtain ⟨vs, ⟨m, e⟩, r⟩ := a.here
      refine ⟨vs, ⟨m, k _ _ (fun hm => ?_) e⟩, r.move (fun b o _ q e => k b o q e) hw fun a z => .inl z⟩
      obtain ⟨o', fs, e', hd'⟩ := hw D hm
      rw [e] at e'; cases e'; cases hd') }

noncomputable def NoHot (ρ : PEnv) : Prop := ∀ x l, ρ.lookup x ≠ some (.hot l)

/-- a list of the frame's own has been changed -/
theorem St.changed (S : St c env W h₀ Z₀ h Z ρ) {D : Addr} {xs xs' : Array Value} {h' : Heap} (hl : h.PlainList D xs) (hl' : h'.PlainList D xs') (hs : Heap.SameBut D h h') (hz : Z D) (hn : h₀.get? D = none) (nh : NoHot ρ) :
    St c env W h₀ Z₀ h' Z ρ ∧ KeepBut Z h h' := by
  have kb : KeepBut Z h h' := SameBut.keepBut hs hz
  have ex : ∀ {b : Addr}, (∃ o, h.get? b = some o) → ∃ o, h'.get? b = some o := fun e => SameBut.exists hs (let ⟨_, e⟩ := hl'; ⟨_, e⟩) e
  have hold : ∀ y u, Holds env h y u → Holds env h' y u := by
    rintro y u (⟨k1, m', n', e⟩ | ⟨k1, a, e1, e2⟩)
    · exact .inl ⟨k1, m', n'.sameBut hs (Ne.symm (Ns.ne_list n' hl)), e⟩
    · exact .inr ⟨k1, a, e1, e2.sameBut hs (Ne.symm (IsCell.ne_list e2 hl))⟩
  refine ⟨⟨S.base, fun b o e => (hs.2 b fun q => ?_).trans (S.keep b o e), ⟨S.fr.ok, fun y q e hq => ?_⟩, { S.wr with ns := ?_, cell := fun y hy hky => ?_ }, fun a q => ex (S.z a q), S.z0, S.zn, fun y l e => absurd e (nh y l)⟩, kb⟩
  · rw [q, hn] at e; cases e
  · obtain ⟨u, e1, e2⟩ := S.fr.vars y q e hq
    exact ⟨u, hold y u e1, e2.but kb⟩
  · obtain ⟨m, hm⟩ := S.wr.ns
    exact ⟨m, hm.sameBut hs (Ne.symm (Ns.ne_list hm hl))⟩
  · obtain ⟨a, u, e1, e2, e3⟩ := S.wr.cell y hy hky
    exact ⟨a, u, e1, e2.sameBut hs (Ne.symm (IsCell.ne_list e2 hl)), e3⟩

/-- what is left of a turn, the target bound: it ends with more on the list -/
noncomputable def TailOK (c : Cx) (n : Nat) (env : Env) (W : List Str) (t : Value → Sem Fin → Sem Fin) (ρ ρb : PEnv) (outs : List PV) : Prop :=
  ∀ (A : Around) (s : Shared) (Z Z₀ : Addr → Prop) (h₀ : Heap) (D : Addr) (done : List PV) (k : Sem Fin) (Q : Fin → Shared → Prop) (E : Value → Shared → Prop), Good n A → St c env W h₀ Z₀ s.heap Z ρ → Acc h₀ s.heap Z D done →
    (done ++ outs).length ≤ sizeLine →
    (∀ h' tk, St c env W h₀ Z₀ h' Z ρb → Acc h₀ h' Z D (done ++ outs) → KeepBut Z s.heap h' → wpAny c.M A k Q E { s with heap := h', toks := tk }) → wpAny c.M A (t (.ref D) k) Q E s

theorem St.upto (S : St c env W h₀ Z₀ h Z ρ) {ρ' : PEnv} (k : ∀ x p, ρ'.lookup x = some p → ρ.lookup x = some p) : St c env W h₀ Z₀ h Z ρ' := S.weak k

theorem TailOK.emit {elt : Expr} {ρb : PEnv} {q : PV} (he : EV c n env ρ elt q) (hsub : ∀ x p, ρb.lookup x = some p → ρ.lookup x = some p) (nh : NoHot ρb) :
    TailOK c n env W (fun acc => emitT elt acc env) ρ ρb [q] := by
  intro A s Z Z₀ h₀ D done k Q E g S a hsz h
  unfold emitT
  refine wpAny_bind (wpAny_bind (he A s Z g S.baseNow S.fr S.z _ _ fun v h1 t1 k1 r1 => ?_))
  obtain ⟨vs, hl, rl⟩ := (a.keep k1).here
  have hlen := rl.length
  have hz : vs.toArray.size ≤ sizeLine := by
    rw [List.length_append] at hsz
    simp only [List.size_toArray]
    omega
  refine wpAny_bind (wpAny_list_append_plain (hsz := hz) hl fun h2 hl2 hs2 => ?_)
  · obtain ⟨S2, kb2⟩ := ((S.keeps k1).weak hsub).changed hl hl2 hs2 a.hot a.new nh
    refine wpAny_pure (h h2 t1 S2 { a with here := ⟨vs ++ [v], by simpa using hl2, (rl.append (.one r1)).but kb2⟩ } ((KeepBut.of k1).trans' kb2 fun _ z => .inl z))

theorem ifs_nil {A : Around} {s : Shared} {Q : Bool → Shared → Prop} {E : Value → Shared → Prop} (h : Q true s) : wpAny c.M A (ifsT [] env) Q E s := wpAny_tests_nil h
theorem ifs_one {A : Around} {s : Shared} {e : Expr} {Q : Bool → Shared → Prop} {E : Value → Shared → Prop} (h : wpAny c.M A (isTrue e env (eval e env)) Q E s) : wpAny c.M A (ifsT [e] env) Q E s := wpAny_tests_one h

/-- the tests of a clause -/
noncomputable def IFS (c : Cx) (n : Nat) (env : Env) (ρ : PEnv) (ifs : List Expr) (b : Bool) : Prop :=
  ∀ (A : Around) (s : Shared) (Z : Addr → Prop), Good n A → c.Base s.heap → FrameOk env s.heap Z ρ → ZOk Z s.heap → Gb c A s (ifsT ifs env) b
theorem IFS.nil : IFS c n env ρ [] true := fun A s Z g b F z Q E h => ifs_nil (h s.heap s.toks Keep.refl)
theorem IFS.one {e : Expr} {b : Bool} (ht : TV c n env ρ e b) : IFS c n env ρ [e] b := fun A s Z g bs F z Q E h => ifs_one (ht A s Z g bs F z _ _ h)

/-- one clause's loop -/
theorem comp_loop {e : Expr} {d : Nat} {ip : Pos} {x : Str} {xp : Pos} {ifs : List Expr} {t : Value → Sem Fin → Sem Fin} {ρb : PEnv} {xs : List PV} (bs : PV → Bool) (outs : PV → List PV) {I D : Addr} {fp wr : List Addr} {P : Nat → Value → Prop} {R : Nat → Heap → Prop}
    (heq : ∀ it acc, compTurn e d it acc env = turnT e d ip (.Name x xp) ifs (t acc) it acc env) (hq : ∀ it acc, (Code.compLoop e d it acc env).quiet = true := by intro _ _; rfl) (hfr : ∀ it acc, (Code.compLoop e d it acc env).isFrame = false := by intro _ _; rfl)
    (hund : ∀ it acc (A : Around), A.under (.compLoop e d it acc env) = A := by intro _ _ _; rfl)
    (hx : Stored env W x) (hb : ρb.lookup x = none)
    (hifs : ∀ p ∈ xs, p.isHot = false → IFS c n env (ρb.set x p) ifs (bs p)) (ht : ∀ p ∈ xs, p.isHot = false → bs p = true → TailOK c n env W t (ρb.set x p) ρb (outs p))
    {A : Around} {s : Shared} {Rr : Result → Shared → Prop} {done : List PV} (g : Good n A) (S : St c env W h₀ Z₀ s.heap Z ρb) (a : Acc h₀ s.heap Z D done) {hI : Heap} (it : Iter c hI Z xs I fp wr P R)
    (hR0 : R 0 s.heap) (kI : ∀ b o, ¬ Z b → b ∉ wr → hI.get? b = some o → s.heap.get? b = some o) (hnew : ∀ b ∈ wr, h₀.get? b = none) (hsz : (done ++ xs.flatMap fun p => if bs p then outs p else []).length ≤ sizeLine)
    (hR : ∀ h' tk, St c env W h₀ Z₀ h' Z ρb → Acc h₀ h' Z D (done ++ xs.flatMap fun p => if bs p then outs p else []) → (∀ b o, ¬ Z b → b ∉ wr → s.heap.get? b = some o → h'.get? b = some o) → Rr (.ok .next) { s with heap := h', toks := tk }) :
    codeAny c.M A (.compLoop e d (.ref I) (.ref D) env) Rr s := by
  have W₁ := it.walks A g.h
  have hwc : ∀ b ∈ wr, ¬ Z b := fun b hb => it.cold b (W₁.sub b hb)
  refine codeAny_loop (hq _ _) (fun k s' => ∃ i h' tk, s' = { s with heap := h', toks := tk } ∧ i ≤ xs.length ∧ k = xs.length - i ∧ R i h' ∧ St c env W h₀ Z₀ h' Z ρb ∧
      Acc h₀ h' Z D (done ++ (xs.take i).flatMap fun p => if bs p then outs p else []) ∧ (∀ b o, ¬ Z b → b ∉ wr → s.heap.get? b = some o → h'.get? b = some o)) ?_ xs.length ?_
  · rintro k s' ⟨i, h', tk, rfl, hi, rfl, hRi, S', a', kb⟩
    rw [hund]
    have e0 : (model c.prog c.w).den (.compLoop e d (.ref I) (.ref D) env) = (compTurn e d (.ref I) (.ref D) env).onRaise (fun x => do noteFrame x env; theTreesLotGoes x) := by
      show (if (Code.compLoop e d (.ref I) (.ref D) env).isFrame then _ else _) = _
      rw [hfr]; rfl
    show wpAny (model c.prog c.w) A ((model c.prog c.w).den (.compLoop e d (.ref I) (.ref D) env)) _ _ _
    rw [e0]
    refine wpAny_noted ?_
    rw [heq]
    unfold turnT
    refine wpAny_bind (wpAny_standAt ?_)
    by_cases hlt : i < xs.length
    · refine wpAny_bind (W₁.item i _ _ _ hlt hRi fun v h2 t2 hP hR2 k2 => ?_)
      have S2 := S'.iter k2 (it.obj _ _ hRi) hwc hnew
      have a2 := a'.iter k2 (it.obj _ _ hRi)
      obtain ⟨p, hp, rp⟩ := it.item i v hP
      have kI2 : ∀ b o, ¬ Z b → b ∉ wr → hI.get? b = some o → h2.get? b = some o := fun b o q1 q2 e => k2 b o q2 (kb b o q1 q2 (kI b o q1 q2 e))
      have rp2 : Rel h2 Z p v := rp.move kI2 (it.obj _ _ it.start) fun _ z => .inl z
      have hpm : p ∈ xs := List.mem_of_getElem? hp
      show wpAny _ A (letOwnedTupleGo (.Name x xp) (.ref I) v >>= _) _ _ _
      refine wpAny_bind (wpAny_of_eq (show letOwnedTupleGo (.Name x xp) (.ref I) v = pure () from rfl) ?_)
      refine wpAny_bind (wpAny_assign_Name ?_)
      refine St.store (s := { s with heap := h2, toks := t2 }) S2 hx rp2 rp.cold fun h3 t3 S3 kb3 kl3 => ?_
      have a3 : Acc h₀ h3 Z D (done ++ (xs.take i).flatMap fun p => if bs p then outs p else []) := by
        obtain ⟨vs, hl, rl⟩ := a2.here
        exact { a2 with here := ⟨vs, kl3 _ _ hl, rl.but kb3⟩ }
      have hR3 : R (i + 1) h3 := W₁.frame _ _ _ hR2 fun b hb o e => kb3 b o (it.cold b hb) e
      have etake : (xs.take (i + 1)).flatMap (fun p => if bs p then outs p else []) = (xs.take i).flatMap (fun p => if bs p then outs p else []) ++ (if bs p then outs p else []) := by
        rw [List.take_add_one, hp]; simp
      have kb03 : ∀ b o, ¬ Z b → b ∉ wr → s.heap.get? b = some o → h3.get? b = some o := fun b o q1 q2 e => kb3 b o q1 (k2 b o q2 (kb b o q1 q2 e))
      have hS3 : St c env W h₀ Z₀ h3 Z (ρb.set x p) := S3
      refine wpAny_bind (hifs p hpm rp.cold A _ Z g hS3.baseNow hS3.fr hS3.z _ _ fun h4 t4 k4 => ?_)
      have kb04 : ∀ b o, ¬ Z b → b ∉ wr → s.heap.get? b = some o → h4.get? b = some o := fun b o q1 q2 e => k4 _ _ (kb03 b o q1 q2 e)
      have hR4 : R (i + 1) h4 := W₁.frame _ _ _ hR3 fun b hb o e => k4 _ _ e
      have sub : ∀ y q, ρb.lookup y = some q → (ρb.set x p).lookup y = some q := fun y q e => by
        by_cases hy : y = x
        · subst hy; rw [hb] at e; cases e
        · rw [PEnv.set_off hy]; exact e
      cases hbp : bs p with
      | false =>
        simp only [Bool.false_eq_true, if_false]
        rw [hbp] at etake
        simp only [Bool.false_eq_true, if_false, List.append_nil] at etake
        refine wpAny_pure ⟨rfl, xs.length - (i + 1), by omega, i + 1, h4, t4, rfl, by omega, rfl, hR4, (hS3.keeps k4).weak sub, ?_, kb04⟩
        rw [etake]; exact a3.keep k4
      | true =>
        simp only [if_true]
        rw [hbp] at etake
        simp only [if_true] at etake
        have hsz' : ((done ++ (xs.take i).flatMap fun p => if bs p then outs p else []) ++ outs p).length ≤ sizeLine := by
          rw [List.append_assoc, ← etake]
          refine Nat.le_trans ?_ hsz
          rw [List.length_append, List.length_append]
          have : (xs.take (i + 1)).flatMap (fun p => if bs p then outs p else []) <+: xs.flatMap (fun p => if bs p then outs p else []) := by
            conv => rhs; rw [← List.take_append_drop (i + 1) xs, List.flatMap_append]
            exact List.prefix_append _ _
          have := this.length_le
          omega
        refine ht p hpm rp.cold hbp A _ Z Z₀ h₀ D _ _ _ _ g (hS3.keeps k4) (a3.keep k4) hsz' fun h5 t5 S5 a5 kb5 => ?_
        refine wpAny_pure ⟨rfl, xs.length - (i + 1), by omega, i + 1, h5, t5, rfl, by omega, rfl, W₁.frame _ _ _ hR4 fun b hb o e => kb5 b o (it.cold b hb) e, S5, ?_, fun b o q1 q2 e => kb5 b o q1 (kb04 b o q1 q2 e)⟩
        rw [etake, ← List.append_assoc]; exact a5
    · have hin : i = xs.length := by omega
      subst hin
      refine wpAny_bind (W₁.done _ _ _ hRi fun h2 t2 k2 => ?_)
      rw [List.take_length] at a'
      exact wpAny_pure (hR h2 t2 (S'.iter k2 (it.obj _ _ hRi) hwc hnew) (a'.iter k2 (it.obj _ _ hRi)) fun b o q1 q2 e => k2 b o q2 (kb b o q1 q2 e))
  · exact ⟨0, s.heap, s.toks, rfl, Nat.zero_le _, by simp, hR0, S, by simpa using a, fun _ _ _ _ e => e⟩
end Mine
end

/-! PlK -/
section
set_option maxRecDepth 100000
namespace Mine
open PySem PySem.W PyProof.Rows PySem.Calls PySem.Spec
variable {c : Cx} {n : Nat} {env : Env} {W : List Str} {ρ : PEnv} {h₀ h : Heap} {Z Z₀ : Addr → Prop}

theorem compStart_any {e : Expr} {d : Nat} {it acc : Value} {A : Around} {s : Shared} {R : Result → Shared → Prop}
    (hq : ∀ it acc, (Code.compLoop e d it acc env).quiet = true) (hfr : (Code.compStart e d it acc env).isFrame = false) (hund : A.under (.compStart e d it acc env) = A) (hna : ((clausesOf e)[d]?.elim false fun x => x.is_async != 0) = false)
    (h0 : codeAny c.M A (.compLoop e d it acc env) R s)
    (h : wpAny c.M A (pyIter it) (fun it' s' => codeAny c.M A (.compLoop e d it' acc env) R s') (fun _ _ => False) s) : codeAny c.M A (.compStart e d it acc env) R s := by
  refine codeAny_of_tree ?_
  rw [hund]
  have e0 : (model c.prog c.w).den (.compStart e d it acc env) = (compStart e d it acc env).onRaise (fun x => do noteFrame x env; standAt theWindowsPlace) := by
    show (if (Code.compStart e d it acc env).isFrame then _ else _) = _
    rw [hfr]; rfl
  show wpAny (model c.prog c.w) A ((model c.prog c.w).den (.compStart e d it acc env)) _ _ _
  rw [e0]
  refine wpAny_notedAt ?_
  have h' : wpAny c.M A (pyIter it) (fun it' s' => codeAny c.M A (.compLoop e d it' acc env) R s') (notedBy c.M A env fun x s' => R (.error x) s') s := wpAny_mono h (fun _ _ x => x) fun _ _ f => f.elim
  unfold compStart
  rw [hna]
  show wpAny _ _ (ask >>= _) _ _ s
  refine wpAny_bind (wpAny_askSetting ?_)
  have key : wpAny c.M A (do
      rule "comprehension.iter-twice"
      if let some g := (clausesOf e)[d]? then standAt g.iter.pos
      again (.compLoop e d (← pyIter it) acc env)) (fun fin s' => match fin with | .done f => R (.ok f) s' | .again c' => c'.quiet = true ∧ codeAny c.M A c' R s') (notedBy c.M A env fun x s' => R (.error x) s') s := by
    refine wpAny_bind (wpAny_rule ?_)
    cases (clausesOf e)[d]? with
    | none => exact wpAny_bind (wpAny_mono h' (fun it' s' q => wpAny_pure ⟨hq _ _, q⟩) fun _ _ x => x)
    | some g => exact wpAny_bind (wpAny_standAt (wpAny_bind (wpAny_mono h' (fun it' s' q => wpAny_pure ⟨hq _ _, q⟩) fun _ _ x => x)))
  refine wpAny_ite ?_
  split
  · exact wpAny_bind (wpAny_pure (wpAny_pure ⟨hq _ _, h0⟩))
  · exact key

/-! A comprehension's own frame. -/
theorem cellsFrom_acc : ∀ (names : List (Str × NameKind)) (k : Nat) (acc : List (Str × Addr)), cellsFrom k names acc = cellsFrom k names [] ++ acc
  | [], _, _ => rfl
  | (x, kind) :: r, k, acc => by
    unfold cellsFrom
    split
    · rw [cellsFrom_acc r (k + 1) ((x, k) :: acc), cellsFrom_acc r (k + 1) [(x, k)], List.append_assoc]; rfl
    · exact cellsFrom_acc r k acc

noncomputable abbrev cEnv (scope : Scope) (cl : List (Str × Addr)) (C : Addr) (env : Env) : Env :=
  { scope := relabel scope env, locals := C, globals := env.globals, cells := cellsFrom (C + 1) scope.names [] ++ cl, qual := env.qual, func := none, code := env.code, frame := env.frame, builtins := env.builtins }

theorem pushCells_size : ∀ (names : List (Str × NameKind)) (h : Heap), h.objs.size ≤ (pushCells h names).objs.size
  | [], _ => Nat.le_refl _
  | (_, kind) :: r, h => by
    unfold pushCells
    split
    · exact Nat.le_trans (by rw [Heap.size_push]; exact Nat.le_succ _) (pushCells_size r _)
    · exact pushCells_size r h

theorem wpAny_newCompEnv {scope : Scope} {cl : List (Str × Addr)} {A : Around} {s : Shared} {Q : Env → Shared → Prop} {E : Value → Shared → Prop}
    (h : ∀ h' env', { env' with scope := relabel scope env } = cEnv scope cl s.heap.objs.size env → env'.locals = s.heap.objs.size → h'.Ns s.heap.objs.size (fun _ => none) → Keep s.heap h' →
      CellsOk h' (s.heap.objs.size + 1) (cellsFrom (s.heap.objs.size + 1) scope.names []) → Q env' { s with heap := h' }) :
    wpAny c.M A (newFunctionEnv scope env.globals cl [] env.qual none .none (some env)) Q E s := by
  simp only [newFunctionEnv, Option.isSome_some, if_true]
  refine wpAny_bind (wpAny_alloc ?_)
  refine wpAny_bind (wpAny_layCells _ (fun name kind cells => by cases hkc : kind == NameKind.cell <;> simp [hkc]) _ _ _ _ ?_)
  rw [show ({ s with heap := s.heap.push { cls := .type "dict", data := .dict #[] } } : Shared).heap.objs.size = s.heap.objs.size + 1 from Heap.size_push ..]
  rw [List.forIn_nil]
  refine wpAny_bind (wpAny_pure (wpAny_pure ?_))
  have ok := cellsFrom_ok scope.names (s.heap.push { cls := .type "dict", data := .dict #[] }) (s.heap.objs.size + 1) [] ⟨fun _ _ hm => (nomatch hm), List.Pairwise.nil⟩ (by rw [Heap.size_push]; exact Nat.le_refl _)
  rw [Heap.size_push] at ok
  refine h _ _ ?_ rfl ((Heap.Ns.new s.heap (.type "dict")).keeps (pushCells_keeps _ _)) (fun b o e => pushCells_keeps _ _ b o (Heap.get?_push_of_some _ e)) ok
  rw [cellsFrom_acc scope.names (s.heap.objs.size + 1) cl]

structure ClosOk (env : Env) (scope : Scope) (cl : List (Str × Addr)) (ρ ρb : PEnv) : Prop where
  clos : closureFor scope env = pure cl
  known : ∀ y q, (y, q) ∈ ρb → q.isHot = false ∧ ρ.lookup y = some q ∧ (env.kindOf y = some .cell ∨ env.kindOf y = some .free) ∧
    ((relabel scope env).names.lookup y = some .cell ∨ (relabel scope env).names.lookup y = some .free) ∧ (∃ a, cl.lookup y = some a ∧ env.cells.lookup y = some a) ∧ (∀ k, (cellsFrom k scope.names []).lookup y = none)
  all : ∀ y a, (y, a) ∈ cl → ∃ q, (y, q) ∈ ρb

theorem append_lookup {α : Type} (l m : List (Str × α)) (x : Str) : (l ++ m).lookup x = (l.lookup x).or (m.lookup x) := by simp [List.lookup_append]

theorem comp_core {elt iter : Expr} {x : Str} {xp : Pos} {ifs : List Expr} {rest : List Comprehension} {scope : Scope} {pos ps : Pos} {cl : List (Str × Addr)} {ρb : PEnv} {xs : List PV} {bs : PV → Bool} {outs : PV → List PV}
    {t : Addr → Value → Sem Fin → Sem Fin} {use : Option (Value → Sem Unit)} {Q : Value → Shared → Prop} {E : Value → Shared → Prop}
    (hit : IT c n env ρ iter xs) (C : ClosOk env scope cl ρ ρb) (hk : scope.kind = .function) (hnames : ∀ x ∈ scope.names, x.2 = .local → scope.names.lookup x.1 = some .local)
    (hxb : ρb.lookup x = none) (hW : ∀ k, ∀ y ∈ W, (relabel scope env).names.lookup y = some .cell → ((cellsFrom k scope.names []).lookup y).isSome = true)
    (hst : (relabel scope env).names.lookup x = some .local ∨ ((relabel scope env).names.lookup x = some .cell ∧ x ∈ W))
    (heq : ∀ B it acc, compTurn (.ListComp elt (⟨.Name x xp, iter, ifs, 0⟩ :: rest) scope pos) 0 it acc (cEnv scope cl B env) = turnT (.ListComp elt (⟨.Name x xp, iter, ifs, 0⟩ :: rest) scope pos) 0 iter.pos (.Name x xp) ifs (t B acc) it acc (cEnv scope cl B env))
    (hifs : ∀ B, ∀ p ∈ xs, p.isHot = false → IFS c n (cEnv scope cl B env) (ρb.set x p) ifs (bs p))
    (ht : ∀ B, ∀ p ∈ xs, p.isHot = false → bs p = true → TailOK c n (cEnv scope cl B env) W (t B) (ρb.set x p) ρb (outs p))
    (hsz : (xs.flatMap fun p => if bs p then outs p else []).length ≤ sizeLine)
    {A : Around} {s : Shared} (g : Good n A) (b : c.Base s.heap) (F : FrameOk env s.heap Z ρ) (z : ZOk Z s.heap) (hs : ∀ v, foldedSetIterable iter env v = pure v)
    (hpost : ∀ D B h' tk vs, Keep s.heap h' → h'.PlainList D vs.toArray → RelL h' Z (xs.flatMap fun p => if bs p then outs p else []) vs → ¬ Z D → s.heap.get? D = none → s.heap.get? B = none → D ≠ B → (∃ m, h'.Ns B m) →
      compPost c.M A E use Q (.ref D) B (.ok .next) { s with heap := h', toks := tk }) :
    wpAny c.M A (comprehension (.ListComp elt (⟨.Name x xp, iter, ifs, 0⟩ :: rest) scope pos) scope env ps (newList []) false (eval iter env) use) Q E s := by
  refine wpAny_comprehension_free (cl := cl) rfl hs C.clos hk hnames ?_
  refine hit A s Z _ _ g b F z fun I fp wr P R hI tI it kI hwr => ?_
  refine wpAny_newObj_type ?_
  generalize hH2 : hI.push { cls := .type "list", dict := none, data := .seq ([] : List Value).toArray } = H2
  have hD : H2.objs.size = hI.objs.size + 1 := by rw [← hH2, Heap.size_push]
  have k2 : Keep hI H2 := fun b o e => hH2 ▸ Heap.get?_push_of_some _ e
  refine wpAny_newCompEnv (c := c) (s := { s with heap := H2, toks := tI }) fun h3 env' he hl hns k3 ok => ?_
  dsimp only at he hl hns k3 ok ⊢
  rw [he, hl]
  have old : Keep s.heap h3 := (kI.trans k2).trans k3
  have newK : ∀ {h h' : Heap} {a : Addr}, Keep h h' → h'.objs.size ≤ a → h.get? a = none := fun {h h' a} k q => by
    cases e : h.get? a with
    | none => rfl
    | some o => exact absurd (Heap.lt_size (k _ _ e)) (Nat.not_lt.mpr q)
  have hDn : s.heap.get? hI.objs.size = none := newK kI (Nat.le_refl _)
  have hBn : s.heap.get? H2.objs.size = none := newK (kI.trans k2) (Nat.le_refl _)
  have hOwn : ∀ y a, (y, a) ∈ cellsFrom (H2.objs.size + 1) scope.names [] → s.heap.get? a = none ∧ hI.get? a = none ∧ H2.objs.size < a := fun y a hm => by
    have := (ok.empty y a hm).2
    exact ⟨newK (kI.trans k2) (by omega), newK k2 (by omega), by omega⟩
  let Z' : Addr → Prop := fun a => Z a ∨ a = H2.objs.size ∨ a = hI.objs.size ∨ ∃ y, (y, a) ∈ cellsFrom (H2.objs.size + 1) scope.names []
  have znI : ∀ a, Z' a → Z a ∨ hI.get? a = none := fun a q => by
    rcases q with q | rfl | rfl | ⟨y, q⟩
    · exact .inl q
    · exact .inr (newK k2 (Nat.le_refl _))
    · exact .inr (fresh_none (Nat.le_refl _))
    · exact .inr (hOwn y a q).2.1
  have zoneS : ∀ {p v}, Rel s.heap Z p v → Rel h3 Z' p v := fun r => (r.zone (Z' := Z') fun a o e q => by
    rcases q with q | rfl | rfl | ⟨y, q⟩
    · exact q
    · rw [hBn] at e; cases e
    · rw [hDn] at e; cases e
    · rw [(hOwn y a q).1] at e; cases e).keep old
  have it' : Iter c hI Z' xs I fp wr P R := { it with
    cold := fun b hb q => by
      rcases znI b q with q | q
      · exact it.cold b hb q
      · obtain ⟨o, e⟩ := it.there b hb; rw [e] at q; cases q
    item := fun i v hP => by
      obtain ⟨p, e, r⟩ := it.item i v hP
      exact ⟨p, e, r.zone fun a o e q => by rcases znI a q with q | q; exact q; rw [e] at q; cases q⟩ }
  have clAt : ∀ y a, cl.lookup y = some a → env.cells.lookup y = some a ∧ ∃ o, s.heap.get? a = some o := fun y a e => by
    obtain ⟨q, hq⟩ := C.all y a (lookup_mem e)
    obtain ⟨h1, h2, h3', h4, ⟨a', h5, h6⟩, h7⟩ := C.known y q hq
    rw [e] at h5; cases h5
    refine ⟨h6, ?_⟩
    obtain ⟨v, hv, _⟩ := F.vars y q h2 h1
    rcases hv with ⟨hkk, _⟩ | ⟨_, a2, e2, i2⟩
    · rcases h3' with q | q <;> rw [q] at hkk <;> cases hkk
    · rw [h6] at e2; cases e2
      obtain ⟨o, e3, _⟩ := i2
      exact ⟨o, e3⟩
  have inj : ∀ x y a, (cellsFrom (H2.objs.size + 1) scope.names [] ++ cl).lookup x = some a → (cellsFrom (H2.objs.size + 1) scope.names [] ++ cl).lookup y = some a → x = y := fun x y a ex ey => by
    rw [append_lookup] at ex ey
    cases o1 : (cellsFrom (H2.objs.size + 1) scope.names []).lookup x with
    | some a1 =>
      rw [o1] at ex; cases ex
      cases o2 : (cellsFrom (H2.objs.size + 1) scope.names []).lookup y with
      | some a2 => rw [o2] at ey; cases ey; exact name_of_addr ok.apart (lookup_mem o1) (lookup_mem o2)
      | none =>
        rw [o2] at ey
        obtain ⟨_, o, e⟩ := clAt y a ey
        rw [(hOwn x a (lookup_mem o1)).1] at e; cases e
    | none =>
      rw [o1] at ex
      obtain ⟨e1, o, e⟩ := clAt x a ex
      cases o2 : (cellsFrom (H2.objs.size + 1) scope.names []).lookup y with
      | some a2 => rw [o2] at ey; cases ey; rw [(hOwn y a (lookup_mem o2)).1] at e; cases e
      | none =>
        rw [o2] at ey
        exact F.ok.inj x y a e1 (clAt y a ey).1
  have nh : NoHot ρb := fun x l e => by
    have := (C.known x _ (lookup_mem e)).1
    cases this
  have S : St c (cEnv scope cl H2.objs.size env) W s.heap Z h3 Z' ρb := by
    refine ⟨b, old, ⟨⟨hk, F.ok.globals, F.ok.builtins, inj⟩, fun y q e hq => ?_⟩, ⟨⟨_, hns⟩, hBn, .inr (.inl rfl), fun y hy hyk => ?_, inj⟩, fun a q => ?_, fun a q => .inl q, z, fun x l e => absurd e (nh x l)⟩
    · obtain ⟨h1, h2, h3', h4, ⟨a, h5, h6⟩, h7⟩ := C.known y q (lookup_mem e)
      obtain ⟨v, hv, r⟩ := F.vars y q h2 h1
      refine ⟨v, .inr ⟨h4, a, by rw [append_lookup, h7]; exact h5, ?_⟩, zoneS r⟩
      rcases hv with ⟨hkk, _⟩ | ⟨_, a2, e2, i2⟩
      · rcases h3' with q | q <;> rw [q] at hkk <;> cases hkk
      · rw [h6] at e2; cases e2
        exact i2.keeps old
    · obtain ⟨a, ha⟩ := Option.isSome_iff_exists.mp (hW (H2.objs.size + 1) y hy hyk)
      exact ⟨a, none, by rw [append_lookup, ha]; rfl, (ok.empty y a (lookup_mem ha)).1, (hOwn y a (lookup_mem ha)).1, .inr (.inr (.inr ⟨y, lookup_mem ha⟩))⟩
    · rcases q with q | rfl | rfl | ⟨y, q⟩
      · obtain ⟨o, e⟩ := z a q; exact ⟨o, old _ _ e⟩
      · obtain ⟨o, _, _, e, _⟩ := hns; exact ⟨o, e⟩
      · exact ⟨_, k3 _ _ (hH2 ▸ Heap.get?_push_size _ rfl)⟩
      · obtain ⟨o, e, _⟩ := (ok.empty y a q).1; exact ⟨o, e⟩
  have acc : Acc s.heap h3 Z' hI.objs.size [] := ⟨⟨[], ⟨0, k3 _ _ (hH2 ▸ Heap.get?_push_size _ rfl)⟩, .nil⟩, .inr (.inr (.inl rfl)), hDn⟩
  have kI3 : Keep hI h3 := k2.trans k3
  have hR0 : R 0 h3 := (it.walks A g.h).frame _ _ _ it.start fun b _ o e => kI3 _ _ e
  have loop : ∀ s₃ : Shared, s₃ = { s with heap := h3, toks := tI } → codeAny c.M A (.compLoop (.ListComp elt (⟨.Name x xp, iter, ifs, 0⟩ :: rest) scope pos) 0 (.ref I) (.ref hI.objs.size) (cEnv scope cl H2.objs.size env))
      (compPost c.M A E use Q (.ref hI.objs.size) H2.objs.size) s₃ := by
    rintro s₃ rfl
    refine comp_loop (n := n) (W := W) (Z := Z') (Z₀ := Z) (h₀ := s.heap) bs outs (heq H2.objs.size) (fun _ _ => rfl) (fun _ _ => rfl) (fun _ _ _ => rfl) hst hxb (hifs H2.objs.size) (ht H2.objs.size) g S acc it' hR0 (fun b o _ _ e => kI3 _ _ e) hwr (by simpa using hsz) fun h4 t4 S4 a4 kb4 => ?_
    obtain ⟨vs, hl4, rl4⟩ := a4.here
    rw [List.nil_append] at rl4
    refine hpost hI.objs.size H2.objs.size h4 t4 vs S4.keep hl4 (rl4.zone fun a o e q => .inl q) (fun q => by obtain ⟨o, e⟩ := z _ q; rw [hDn] at e; cases e) hDn hBn (by rw [hD]; exact Nat.ne_of_lt (Nat.lt_succ_self _)) S4.wr.ns
  exact compStart_any (fun _ _ => rfl) rfl rfl rfl (loop _ rfl) ((it.walks A g.h).self 0 _ _ _ hR0 (loop _ rfl))
end Mine
end

/-! PlL -/
section
set_option maxRecDepth 100000
namespace Mine
open PySem PySem.W PyProof.Rows PySem.Calls PySem.Spec
variable {c : Cx} {n : Nat} {env : Env} {W : List Str} {ρ : PEnv} {h₀ h : Heap} {Z Z₀ : Addr → Prop}

/-- what a comprehension needs to know of its scope -/
structure CompOk (env : Env) (scope : Scope) (cl : List (Str × Addr)) (ρ ρb : PEnv) (W : List Str) : Prop where
  clos : ClosOk env scope cl ρ ρb
  kind : scope.kind = .function
  names : ∀ x ∈ scope.names, x.2 = .local → scope.names.lookup x.1 = some .local
  own : ∀ k, ∀ y ∈ W, (relabel scope env).names.lookup y = some .cell → ((cellsFrom k scope.names []).lookup y).isSome = true
/-- a target of it -/
structure TgOk (env : Env) (scope : Scope) (ρb : PEnv) (W : List Str) (x : Str) : Prop where
  free : ρb.lookup x = none
  st : (relabel scope env).names.lookup x = some .local ∨ ((relabel scope env).names.lookup x = some .cell ∧ x ∈ W)

theorem set_sub {ρb : PEnv} {x : Str} {p : PV} (hb : ρb.lookup x = none) : ∀ y q, ρb.lookup y = some q → (ρb.set x p).lookup y = some q := fun y q e => by
  by_cases hy : y = x
  · subst hy; rw [hb] at e; cases e
  · rw [PEnv.set_off hy]; exact e
theorem ClosOk.noHot {scope : Scope} {cl : List (Str × Addr)} {ρb : PEnv} (C : ClosOk env scope cl ρ ρb) : NoHot ρb := fun x l e => by
  have := (C.known x _ (lookup_mem e)).1
  cases this

noncomputable def NonSeq (h : Heap) (b : Addr) : Prop := ∃ o, h.get? b = some o ∧ ∀ xs n, o.data ≠ .seq xs n
mutual
theorem Rel.off {h h' : Heap} {Z : Addr → Prop} {B : Addr} (k : ∀ b o, b ≠ B → h.get? b = some o → h'.get? b = some o) (hw : NonSeq h B) : ∀ {p : PV} {v : Value}, Rel h Z p v → Rel h' Z p v
  | _, _, .none => .none
  | _, _, .bool b => .bool b
  | _, _, .int i t => .int i t
  | _, _, .flt x t => .flt x t
  | _, _, .str x t => .str x t
  | _, _, .tstr x t => .tstr x t
  | _, _, .list (a := a) z l r => by
    obtain ⟨m, e⟩ := id l
    have hnw : a ≠ B := fun hm => by obtain ⟨o', e', hd'⟩ := hw; rw [← hm, e] at e'; cases e'; exact hd' _ _ rfl
    exact .list z ⟨m, k a _ hnw e⟩ (RelL.off k hw r)
  | _, _, .tup (a := a) z l r => by
    obtain ⟨o, e, hc, m, hd⟩ := id l
    have hnw : a ≠ B := fun hm => by obtain ⟨o', e', hd'⟩ := hw; rw [← hm, e] at e'; cases e'; exact hd' _ _ hd
    exact .tup z ⟨o, k a o hnw e, hc, m, hd⟩ (RelL.off k hw r)
theorem RelL.off {h h' : Heap} {Z : Addr → Prop} {B : Addr} (k : ∀ b o, b ≠ B → h.get? b = some o → h'.get? b = some o) (hw : NonSeq h B) : ∀ {ps : List PV} {vs : List Value}, RelL h Z ps vs → RelL h' Z ps vs
  | _, _, .nil => .nil
  | _, _, .cons a r => .cons (Rel.off k hw a) (RelL.off k hw r)
end
theorem Ns.nonSeq {h : Heap} {a : Addr} {m : Str → Option Value} (x : h.Ns a m) : NonSeq h a := by
  obtain ⟨o, es, ep, e, hd, _⟩ := x
  exact ⟨o, e, fun xs n q => by rw [hd] at q; cases q⟩

theorem comp_post_none {Q : Value → Shared → Prop} {E : Value → Shared → Prop} {A : Around} {s : Shared} {ps : List PV} (h : ∀ v h' tk, Keep s.heap h' → Rel h' Z (.list ps) v → Q v { s with heap := h', toks := tk }) :
    ∀ D B h' tk vs, Keep s.heap h' → h'.PlainList D vs.toArray → RelL h' Z ps vs → ¬ Z D → s.heap.get? D = none → s.heap.get? B = none → D ≠ B → (∃ m, h'.Ns B m) →
      compPost c.M A E none Q (.ref D) B (.ok .next) { s with heap := h', toks := tk } := by
  intro D B h' tk vs k hl r hz hD hB hDB ⟨m, hm⟩
  refine ⟨m, hm, fun h'' hs => ?_⟩
  have k2 : Keep s.heap h'' := fun b o e => (hs.2 b fun q => by rw [q, hB] at e; cases e).trans (k _ _ e)
  have hl2 : h''.PlainList D vs.toArray := by
    obtain ⟨n, e⟩ := hl
    exact ⟨n, (hs.2 D hDB).trans e⟩
  exact h (.ref D) h'' tk k2 (.list hz hl2 (r.off (fun b o ne e => (hs.2 b ne).trans e) (Ns.nonSeq hm)))

/-- a dict that is no part of the frame has been changed -/
theorem St.offB (S : St c env W h₀ Z₀ h Z ρ) {h' : Heap} {B : Addr} {m : Str → Option Value} (k : ∀ b o, b ≠ B → h.get? b = some o → h'.get? b = some o) (hm : h.Ns B m) (hne : B ≠ env.locals) (hn : h₀.get? B = none) (hz : ¬ Z B) :
    St c env W h₀ Z₀ h' Z ρ := by
  have offC : ∀ {a v}, h.IsCell a v → a ≠ B := fun x => Ns.ne_cell hm x
  have hold : ∀ y u, Holds env h y u → Holds env h' y u := by
    rintro y u (⟨k1, m, n', e⟩ | ⟨k1, b, e1, e2⟩)
    · exact .inl ⟨k1, m, n'.at' fun o e => k _ _ (Ne.symm hne) e, e⟩
    · have := offC e2
      obtain ⟨o, e, hd⟩ := e2
      exact .inr ⟨k1, b, e1, o, k _ _ this e, hd⟩
  refine ⟨S.base, fun b o e => k b o (fun q => by rw [q, hn] at e; cases e) (S.keep b o e), ⟨S.fr.ok, fun x p e q => ?_⟩, { S.wr with ns := ?_, cell := fun x hx hk => ?_ }, fun a q => ?_, S.z0, S.zn, fun x l e => ?_⟩
  · obtain ⟨v, e1, e2⟩ := S.fr.vars x p e q
    exact ⟨v, hold x v e1, e2.off k (Ns.nonSeq hm)⟩
  · obtain ⟨m', hm'⟩ := S.wr.ns
    exact ⟨m', hm'.at' fun o e => k _ _ (Ne.symm hne) e⟩
  · obtain ⟨a, v, e1, e2, e3⟩ := S.wr.cell x hx hk
    have := offC e2
    obtain ⟨o, e, hd⟩ := e2
    exact ⟨a, v, e1, ⟨o, k _ _ this e, hd⟩, e3⟩
  · obtain ⟨o, e⟩ := S.z a q
    exact ⟨o, k a o (fun e => hz (e ▸ q)) e⟩
  · obtain ⟨a, vs, e1, e2, e3, ⟨n, e4⟩, e5⟩ := S.hots x l e
    exact ⟨a, vs, hold x _ e1, e2, e3, ⟨n, k _ _ (fun e => hz (e ▸ e2)) e4⟩, e5.off k (Ns.nonSeq hm)⟩

theorem flat_filter (bs : PV → Bool) (f : PV → PV) (xs : List PV) : (xs.flatMap fun p => if bs p then [f p] else []) = (xs.filter bs).map f := by
  induction xs with
  | nil => rfl
  | cons a l ih => rw [List.flatMap_cons, ih, List.filter_cons]; cases bs a <;> simp

theorem EV.comp {elt iter : Expr} {x : Str} {xp : Pos} {ifs : List Expr} {scope : Scope} {pos : Pos} (cl : List (Str × Addr)) (ρb : PEnv) (W : List Str) {xs : List PV} (bs : PV → Bool) (f : PV → PV)
    (hit : IT c n env ρ iter xs) (C : CompOk env scope cl ρ ρb W) (T : TgOk env scope ρb W x)
    (hifs : ∀ B, ∀ p ∈ xs, p.isHot = false → IFS c n (cEnv scope cl B env) (ρb.set x p) ifs (bs p))
    (helt : ∀ B, ∀ p ∈ xs, p.isHot = false → bs p = true → EV c n (cEnv scope cl B env) (ρb.set x p) elt (f p))
    (hsz : xs.length ≤ sizeLine) (hs : ∀ v, foldedSetIterable iter env v = pure v := by intro _; rfl) :
    EV c n env ρ (.ListComp elt [⟨.Name x xp, iter, ifs, 0⟩] scope pos) (.list ((xs.filter bs).map f)) := by
  intro A s Z g b F z Q E h
  have er := flat_filter bs f xs
  rw [eval_ListComp]
  refine comp_core (W := W) (bs := bs) (outs := fun p => [f p]) (t := fun B acc => emitT elt acc (cEnv scope cl B env)) hit C.clos C.kind C.names T.free C.own T.st (fun B it acc => turn_one ..) hifs
    (fun B p hp hh hb => TailOK.emit (helt B p hp hh hb) (set_sub T.free) C.clos.noHot) ?_ g b F z hs ?_
  · rw [er, List.length_map]; exact Nat.le_trans (List.length_filter_le _ _) hsz
  · rw [er]; exact comp_post_none h

theorem TailOK.inner {elt iter2 : Expr} {gs : List Comprehension} {x2 : Str} {xp2 : Pos} {ifs2 : List Expr} {scope : Scope} {pos : Pos} {ρb : PEnv} {xs2 : List PV} (bs : PV → Bool) (f : PV → PV)
    (hit : IT c n env ρ iter2 xs2)
    (heq : ∀ it acc, compTurn (.ListComp elt gs scope pos) 1 it acc env = turnT (.ListComp elt gs scope pos) 1 iter2.pos (.Name x2 xp2) ifs2 (emitT elt acc env) it acc env)
    (hna : (gs[1]?.elim false fun x => x.is_async != 0) = false)
    (hx : Stored env W x2) (hb : ρ.lookup x2 = none) (nh : NoHot ρ) (hsub : ∀ x p, ρb.lookup x = some p → ρ.lookup x = some p)
    (hifs : ∀ p ∈ xs2, p.isHot = false → IFS c n env (ρ.set x2 p) ifs2 (bs p)) (helt : ∀ p ∈ xs2, p.isHot = false → bs p = true → EV c n env (ρ.set x2 p) elt (f p))
    (hs : ∀ v, foldedSetIterable iter2 env v = pure v) :
    TailOK c n env W (fun acc => innerT (.ListComp elt gs scope pos) iter2 acc env) ρ ρb ((xs2.filter bs).map f) := by
  intro A s Z Z₀ h₀ D done k Q E g S a hsz h
  have er := flat_filter bs f xs2
  unfold innerT
  refine wpAny_bind (wpAny_mono (hit A s Z (fun it s' => wpAny c.M A (runOwn (.compStart (.ListComp elt gs scope pos) 1 it (.ref D) env) env >>= fun _ => k) Q E s') E g S.baseNow S.fr S.z ?_)
    (fun v s' hv => wpAny_bind (wpAny_standAt (wpAny_bind (wpAny_of_eq (hs v) (wpAny_bind (wpAny_holding hv)))))) fun _ _ e => e)
  intro I fp wr P R hI tI it kI hwr
  have S1 := S.keeps kI
  have a1 := a.keep kI
  have hR0 := it.start
  refine wpAny_bind (wpAny_runOwn ?_)
  have loop : ∀ s₃ : Shared, s₃ = { s with heap := hI, toks := tI } → codeAny c.M A (.compLoop (.ListComp elt gs scope pos) 1 (.ref I) (.ref D) env)
      (fun r s' => match r with | .ok f => wpAny c.M A k Q E s' | .error e => cameBackBy c.M A env E e s') s₃ := by
    rintro s₃ rfl
    refine comp_loop (n := n) (W := W) (Z := Z) (Z₀ := Z₀) (h₀ := h₀) bs (fun p => [f p]) heq (fun _ _ => rfl) (fun _ _ => rfl) (fun _ _ _ => rfl) hx hb hifs (fun p hp hh hbp => TailOK.emit (helt p hp hh hbp) (set_sub hb) nh) g S1 a1 it hR0 (fun b o _ _ e => e)
      (fun b hm => by
        cases q : h₀.get? b with
        | none => rfl
        | some o => have := S.keep _ _ q; rw [hwr b hm] at this; cases this) (by rw [er]; exact hsz) fun h4 t4 S4 a4 kb4 => ?_
    rw [er] at a4
    exact h h4 t4 (S4.weak hsub) a4 fun b o q e => kb4 b o q (fun hm => by rw [hwr b hm] at e; cases e) (kI _ _ e)
  exact compStart_any (fun _ _ => rfl) rfl rfl hna (loop _ rfl) ((it.walks A g.h).self 0 _ _ _ hR0 (loop _ rfl))

theorem EV.comp2 {elt iter iter2 : Expr} {x x2 : Str} {xp xp2 : Pos} {ifs2 : List Expr} {scope : Scope} {pos : Pos} (cl : List (Str × Addr)) (ρb : PEnv) (W : List Str) {xs : List PV} (xs2 : PV → List PV) (bs : PV → PV → Bool) (f : PV → PV → PV)
    (hit : IT c n env ρ iter xs) (C : CompOk env scope cl ρ ρb W) (T : TgOk env scope ρb W x) (T2 : TgOk env scope ρb W x2) (hne : x2 ≠ x)
    (hit2 : ∀ B, ∀ p ∈ xs, p.isHot = false → IT c n (cEnv scope cl B env) (ρb.set x p) iter2 (xs2 p))
    (hifs : ∀ B, ∀ p ∈ xs, p.isHot = false → ∀ q ∈ xs2 p, q.isHot = false → IFS c n (cEnv scope cl B env) ((ρb.set x p).set x2 q) ifs2 (bs p q))
    (helt : ∀ B, ∀ p ∈ xs, p.isHot = false → ∀ q ∈ xs2 p, q.isHot = false → bs p q = true → EV c n (cEnv scope cl B env) ((ρb.set x p).set x2 q) elt (f p q))
    (hsz : (xs.flatMap fun p => ((xs2 p).filter (bs p)).map (f p)).length ≤ sizeLine)
    (hs : ∀ v, foldedSetIterable iter env v = pure v := by intro _; rfl) (hs2 : ∀ B v, foldedSetIterable iter2 (cEnv scope cl B env) v = pure v := by intro _ _; rfl) :
    EV c n env ρ (.ListComp elt [⟨.Name x xp, iter, [], 0⟩, ⟨.Name x2 xp2, iter2, ifs2, 0⟩] scope pos) (.list (xs.flatMap fun p => ((xs2 p).filter (bs p)).map (f p))) := by
  intro A s Z g b F z Q E h
  have er : (xs.flatMap fun p => if (fun _ => true) p then ((xs2 p).filter (bs p)).map (f p) else []) = xs.flatMap fun p => ((xs2 p).filter (bs p)).map (f p) := by simp
  rw [eval_ListComp]
  refine comp_core (W := W) (bs := fun _ => true) (outs := fun p => ((xs2 p).filter (bs p)).map (f p)) (t := fun B acc => innerT (Expr.ListComp elt [⟨Expr.Name x xp, iter, [], 0⟩, ⟨Expr.Name x2 xp2, iter2, ifs2, 0⟩] scope pos) iter2 acc (cEnv scope cl B env)) hit C.clos C.kind C.names T.free C.own T.st (fun B it acc => turn_outer ..)
    (fun B p hp hh => IFS.nil) (fun B p hp hh _ => ?_) (by rw [er]; exact hsz) g b F z hs (by rw [er]; exact comp_post_none h)
  refine TailOK.inner (bs p) (f p) (hit2 B p hp hh) (fun it acc => turn_inner ..) rfl T2.st ?_ ?_ (set_sub T.free) (fun q hq hhq => hifs B p hp hh q hq hhq) (fun q hq hhq hb => helt B p hp hh q hq hhq hb) (hs2 B)
  · rw [PEnv.set_off hne]; exact T2.free
  · intro y l e
    by_cases hy : y = x
    · subst hy; rw [PEnv.set_here] at e; cases e; cases hh
    · rw [PEnv.set_off hy] at e; exact C.clos.noHot y l e

/-- a name bound to a comprehension: the stores change places -/
theorem EX1.comp {elt iter : Expr} {x y : Str} {xp yp : Pos} {ifs : List Expr} {scope : Scope} {pos spos : Pos} {Φ : PF → PEnv → Prop} (cl : List (Str × Addr)) (ρb : PEnv) (W' : List Str) {xs : List PV} (bs : PV → Bool) (f : PV → PV)
    (hit : IT c n env ρ iter xs) (C : CompOk env scope cl ρ ρb W') (T : TgOk env scope ρb W' x)
    (hifs : ∀ B, ∀ p ∈ xs, p.isHot = false → IFS c n (cEnv scope cl B env) (ρb.set x p) ifs (bs p))
    (helt : ∀ B, ∀ p ∈ xs, p.isHot = false → bs p = true → EV c n (cEnv scope cl B env) (ρb.set x p) elt (f p))
    (hsz : xs.length ≤ sizeLine) (hy : env.kindOf y = some .local)
    (hsw : swapsWith (.ListComp elt [⟨.Name x xp, iter, ifs, 0⟩] scope pos) (some (.Name y yp)) spos.line env = pure true)
    (h : Φ .next (ρ.set y (.list ((xs.filter bs).map f)))) (hs : ∀ v, foldedSetIterable iter env v = pure v := by intro _; rfl) :
    EX1 c n env W (.Assign [.Name y yp] (.ListComp elt [⟨.Name x xp, iter, ifs, 0⟩] scope pos) spos) ρ Φ := by
  intro A s Z Z₀ h₀ Q E g S hq
  have er := flat_filter bs f xs
  rw [exec_Assign_Name_used _ _ _ _ hsw]
  refine wpAny_bind (wpAny_standAt (wpAny_bind ?_))
  show wpAny _ A (do let _ ← comprehension (.ListComp elt [⟨.Name x xp, iter, ifs, 0⟩] scope pos) scope env _ (newList []) false (eval iter env) (some (PySem.assign (.Name y yp) env))) _ _ s
  refine wpAny_bind (wpAny_mono (comp_core (use := some (PySem.assign (.Name y yp) env)) (Q := fun _ s' => Q .next s') (W := W') (bs := bs) (outs := fun p => [f p]) (t := fun B acc => emitT elt acc (cEnv scope cl B env)) hit C.clos C.kind C.names T.free C.own T.st
    (fun B it acc => turn_one ..) hifs (fun B p hp hh hb => TailOK.emit (helt B p hp hh hb) (set_sub T.free) C.clos.noHot) ?_ g S.baseNow S.fr S.z hs ?_) (fun _ s' hq' => wpAny_pure (wpAny_pure hq')) fun _ _ e => e)
  · rw [er, List.length_map]; exact Nat.le_trans (List.length_filter_le _ _) hsz
  · rw [er]
    intro D B h1 tk vs k hl r hz hD hB hDB hm
    show wpAny _ A (PySem.assign (.Name y yp) env (.ref D)) _ _ _
    have S1 := S.keeps k
    refine wpAny_assign_Name ?_
    have hlist := hl
    refine St.store (s := { s with heap := h1, toks := tk }) S1 (.inl hy) (.list hz hlist r) rfl fun h2 t2 S2 kb2 _ => ?_
    obtain ⟨m, hm⟩ := hm
    have hne : B ≠ env.locals := fun e => by
      obtain ⟨m', n'⟩ := S.wr.ns
      obtain ⟨o, _, _, e', _⟩ := n'
      rw [← e, hB] at e'; cases e'
    have hzB : ¬ Z B := fun q => by obtain ⟨o, e⟩ := S.z B q; rw [hB] at e; cases e
    have hm2 : h2.Ns B m := by
      obtain ⟨o, es, ep, e, r⟩ := hm
      exact ⟨o, es, ep, kb2 B o hzB e, r⟩
    refine ⟨m, hm2, fun h3 hs3 => ?_⟩
    have kk : ∀ b o, b ≠ B → h2.get? b = some o → h3.get? b = some o := fun b o ne e => (hs3.2 b ne).trans e
    have S3 : St c env W h₀ Z₀ h3 Z (ρ.set y (.list ((xs.filter bs).map f))) := S2.offB kk hm2 hne (by
      cases q : h₀.get? B with
      | none => rfl
      | some o => rw [S.keep _ _ q] at hB; cases hB) hzB
    refine hq _ _ _ Z h3 t2 h .next S3 (fun b o q e => ?_) fun _ z => .inl z
    exact kk b o (fun e' => by rw [e', hB] at e; cases e) (kb2 b o q (k _ _ e))
end Mine
end

/-! PlM -/
section
set_option maxRecDepth 100000
namespace Mine
open PySem PySem.W PyProof.Rows PySem.Calls PySem.Spec
variable {c : Cx} {n : Nat} {env : Env} {W : List Str} {ρ : PEnv} {h₀ h : Heap} {Z Z₀ : Addr → Prop}

/-! Environments that know no more. -/
noncomputable abbrev Sub (ρ' ρ : PEnv) : Prop := ∀ x p, ρ'.lookup x = some p → ρ.lookup x = some p
theorem Sub.nil : Sub [] ρ := fun x p e => by simp at e
theorem Sub.cons {ρ' : PEnv} {x : Str} {p : PV} (e : ρ.lookup x = some p) (h : Sub ρ' ρ) : Sub ((x, p) :: ρ') ρ := fun y q e' => by
  rw [List.lookup_cons] at e'
  cases hy : y == x with
  | true => rw [hy] at e'; cases e'; have : y = x := by simpa using hy
            rw [this]; exact e
  | false => rw [hy] at e'; exact h y q e'

/-- a loop by what its names hold -/
theorem EX1.forS {σ : Type} {x : Str} {xp pos : Pos} {iter : Expr} {body : List Stmt} {xs : List PV} {Φ : PF → PEnv → Prop} (vars : σ → PEnv) (J : Nat → σ → Prop) (st₀ : σ) (hit : IT c n env ρ iter xs) (hx : Stored env W x)
    (h0 : J 0 st₀) (hs0 : Sub (vars st₀) ρ)
    (turn : ∀ i p st, xs[i]? = some p → p.isHot = false → J i st → EX c n env W body ((vars st).set x p) (fun f ρ₂ => match f with | .next => ∃ st', J (i + 1) st' ∧ Sub (vars st') ρ₂ | .ret q => Φ (.ret q) ρ₂))
    (done : ∀ st, J xs.length st → Φ .next (vars st)) (hs : ∀ v, foldedSetIterable iter env v = pure v := by intro _; rfl) : EX1 c n env W (.For (.Name x xp) iter body [] pos) ρ Φ := by
  have key : EX1 c n env W (.For (.Name x xp) iter body [] pos) ρ (fun f ρ₂ => match f with | .next => ∃ st, J xs.length st ∧ Sub (vars st) ρ₂ | .ret q => Φ (.ret q) ρ₂) := by
    refine EX1.for hit hx (fun i ρ₁ => ∃ st, J i st ∧ Sub (vars st) ρ₁) ⟨st₀, h0, hs0⟩ ?_ ?_ hs
    · rintro i p ρ₁ hp hh ⟨st, hJ, hsub⟩
      refine (turn i p st hp hh hJ).weak fun y q e => ?_
      by_cases hy : y = x
      · subst hy; rw [PEnv.set_here] at e ⊢; exact e
      · rw [PEnv.set_off hy] at e ⊢; exact hsub y q e
    · rintro ρ₁ ⟨st, hJ, hsub⟩; exact ⟨st, hJ, hsub⟩
  intro A s Z Z₀ h₀ Q E g S hq
  refine key A s Z Z₀ h₀ Q E g S fun fl f ρ' Z' h' tk hf rf S' kb zn => ?_
  cases rf with
  | next =>
    obtain ⟨st, hJ, hsub⟩ := hf
    exact hq _ _ (vars st) Z' h' tk (done st hJ) .next (S'.weak hsub) kb zn
  | ret r => exact hq _ _ ρ' Z' h' tk hf (.ret r) S' kb zn

/-- known texts are texts -/
theorem RelL.is1 {p : PV} {vs : List Value} (r : RelL h Z [p] vs) : ∃ v, vs = [v] ∧ Rel h Z p v := by
  cases r with
  | cons a r => cases r; exact ⟨_, rfl, a⟩
theorem RelL.is2 {p q : PV} {vs : List Value} (r : RelL h Z [p, q] vs) : ∃ v u, vs = [v, u] ∧ Rel h Z p v ∧ Rel h Z q u := by
  cases r with
  | cons a r => obtain ⟨u, rfl, b⟩ := r.is1; exact ⟨_, _, rfl, a, b⟩
theorem RelL.is3 {p q t : PV} {vs : List Value} (r : RelL h Z [p, q, t] vs) : ∃ v u w, vs = [v, u, w] ∧ Rel h Z p v ∧ Rel h Z q u ∧ Rel h Z t w := by
  cases r with
  | cons a r => obtain ⟨u, w, rfl, b, d⟩ := r.is2; exact ⟨_, _, _, rfl, a, b, d⟩

/-! A tuple taken apart. -/
theorem EX1.tup2 {x y : Str} {xp yp tp pos : Pos} {k : Nat} {e : Expr} {p q : PV} {Φ : PF → PEnv → Prop} (he : EV c n env ρ e (.tup [p, q])) (hx : Stored env W x) (hy : Stored env W y)
    (h : Φ .next ((ρ.set x p).set y q))
    (hs : swapsWithSole [.Tuple [.Name x xp, .Name y yp] k tp] e pos.line env = pure false := by rfl) (hw : swappedStores [.Tuple [.Name x xp, .Name y yp] k tp] e env = pure none := by rfl) :
    EX1 c n env W (.Assign [.Tuple [.Name x xp, .Name y yp] k tp] e pos) ρ Φ := by
  intro A s Z Z₀ h₀ Q E g S hq
  refine Assign_Tuple (he A s Z g S.baseNow S.fr S.z _ _ fun v h1 t1 k1 r1 => ?_) hs hw
  cases r1 with
  | tup z l r =>
    obtain ⟨v1, v2, rfl, rp, rq⟩ := r.is2
    refine wpAny_assign_Tuple g.h l rfl rfl fun h2 he2 => ?_
    have k2 : Keep h1 h2 := fun b o e => he2 b o (Nat.ne_of_lt (Heap.lt_size e)) e
    have S2 := (S.keeps k1).keeps k2
    show wpAny _ A (assignInOrder [PySem.assign (.Name x xp) env, PySem.assign (.Name y yp) env] [_, _]) _ _ _
    unfold assignInOrder
    refine wpAny_bind (wpAny_holding (wpAny_assign_Name ?_))
    refine St.store (s := { s with heap := h2, toks := t1 }) S2 hx (rp.keep k2) rp.cold fun h3 t3 S3 kb3 _ => ?_
    unfold assignInOrder
    refine wpAny_bind (wpAny_holding (wpAny_assign_Name ?_))
    refine St.store (s := { s with heap := h3, toks := t3 }) S3 hy ((rq.keep k2).but kb3) rq.cold fun h4 t4 S4 kb4 _ => ?_
    unfold assignInOrder
    refine wpAny_pure (hq _ _ _ Z h4 t4 h .next S4 ?_ fun _ z => .inl z)
    exact ((KeepBut.of (k1.trans k2)).trans' kb3 fun _ z => .inl z).trans' kb4 fun _ z => .inl z

/-! A list that the frame fills. -/
theorem St.hot (S : St c env W h₀ Z₀ h Z ρ) {o : Obj} (hf : o.isFreed = false) : St c env W h₀ Z₀ (h.push o) (fun a => Z a ∨ a = h.objs.size) ρ := by
  have kp : Keep h (h.push o) := fun b o' e => Heap.get?_push_of_some _ e
  have zr : ∀ {p v}, Rel h Z p v → Rel (h.push o) (fun a => Z a ∨ a = h.objs.size) p v := fun r => (r.zone (Z' := fun a => Z a ∨ a = h.objs.size) fun a o' e q => by
    rcases q with q | rfl
    · exact q
    · exact absurd (Heap.lt_size e) (Nat.lt_irrefl _)).keep kp
  have zrL : ∀ {p v}, RelL h Z p v → RelL (h.push o) (fun a => Z a ∨ a = h.objs.size) p v := fun r => (r.zone (Z' := fun a => Z a ∨ a = h.objs.size) fun a o' e q => by
    rcases q with q | rfl
    · exact q
    · exact absurd (Heap.lt_size e) (Nat.lt_irrefl _)).keep kp
  have S' := S.keeps kp
  exact { S' with
    fr := ⟨S.fr.ok, fun x p e q => let ⟨v, e1, e2⟩ := S.fr.vars x p e q; ⟨v, e1.keep kp, zr e2⟩⟩
    wr := { S'.wr with hot := .inl S.wr.hot, cell := fun x hx hk => let ⟨a, v, e1, e2, e3, e4⟩ := S'.wr.cell x hx hk; ⟨a, v, e1, e2, e3, .inl e4⟩ }
    z := fun a q => by
      rcases q with q | rfl
      · exact S'.z a q
      · exact ⟨o, Heap.get?_push_size _ hf⟩
    z0 := fun a q => .inl (S.z0 a q)
    hots := fun x l e => let ⟨a, vs, e1, e2, e3, ⟨n, e4⟩, e5⟩ := S.hots x l e; ⟨a, vs, e1.keep kp, .inl e2, e3, ⟨n, kp _ _ e4⟩, zrL e5⟩ }

theorem EX1.hotNil {x : Str} {xp lp pos : Pos} {Φ : PF → PEnv → Prop} (hx : env.kindOf x = some .local) (h : Φ .next (ρ.set x (.hot []))) : EX1 c n env W (.Assign [.Name x xp] (.List [] lp) pos) ρ Φ := by
  intro A s Z Z₀ h₀ Q E g S hq
  refine wpAny_Assign_Name (List_ (spliced_nil ?_)) rfl
  refine wpAny_newObj_type ?_
  have kp : Keep s.heap (s.heap.push { cls := .type "list", data := .seq ([] : List Value).toArray }) := fun b o' e => Heap.get?_push_of_some _ e
  have S1 := S.hot (o := { cls := .type "list", data := .seq ([] : List Value).toArray }) rfl
  have hnew : h₀.get? s.heap.objs.size = none := by
    cases q : h₀.get? s.heap.objs.size with
    | none => rfl
    | some o => exact absurd (Heap.lt_size (S.keep _ _ q)) (Nat.lt_irrefl _)
  obtain ⟨m, hn⟩ := S1.wr.ns
  refine wpAny_storeName_local hx hn (fun h' hn' hs => ?_) (by rw [S.fr.ok.kind]; rfl)
  obtain ⟨S', kb⟩ := S1.storeL hx hn hn' hs (p := .hot []) (.inr ⟨[], s.heap.objs.size, [], rfl, rfl, .inr rfl, hnew, ⟨0, Heap.get?_push_size _ rfl⟩, .nil⟩)
  refine hq _ _ _ _ h' _ h .next S' ?_ fun a q => ?_
  · exact (KeepBut.of kp).trans' kb fun a q => by
      rcases q with q | rfl
      · exact .inl q
      · exact .inr (fresh_none (Nat.le_refl _))
  · rcases q with q | rfl
    · exact .inl q
    · exact .inr (fresh_none (Nat.le_refl _))

theorem St.addHot (S : St c env W h₀ Z₀ h Z ρ) {x : Str} {l : List PV} {a : Addr} {vs : List Value} (hh : Holds env h x (.ref a)) (hz : Z a) (hn : h₀.get? a = none) (hl : h.PlainList a vs.toArray) (hr : RelL h Z l vs) : St c env W h₀ Z₀ h Z (ρ.set x (.hot l)) :=
  { S with
    fr := ⟨S.fr.ok, fun y p e q => by
      by_cases hy : y = x
      · subst hy; rw [PEnv.set_here] at e; cases e; cases q
      · rw [PEnv.set_off hy] at e; exact S.fr.vars y p e q⟩
    hots := fun y l' e => by
      by_cases hy : y = x
      · subst hy; rw [PEnv.set_here] at e; cases e; exact ⟨a, vs, hh, hz, hn, hl, hr⟩
      · rw [PEnv.set_off hy] at e; exact S.hots y l' e }

theorem EX1.append {x : Str} {xp ap cp pos : Pos} {e : Expr} {l : List PV} {p : PV} {pl : Sem Bool} {Φ : PF → PEnv → Prop} (ρc : PEnv) (hl : ρ.lookup x = some (.hot l)) (he : EV c n env ρ e p) (hc : Sub ρc ρ) (hnh : NoHot ρc) (hsz : l.length < sizeLine)
    (h : Φ .next (ρc.set x (.hot (l ++ [p]))))
    (hc1 : eval (.Call (.Attribute (.Name x xp) "append" ap) [e] [] cp) env = (do
      let ov ← eval (.Name x xp) env
      standAt ap.atName
      let (f, first) ← holding [ov] (getMethod ov "append" pl)
      callWith cp f first (backTo cp (starEach [e] env)) []) := by rfl)
    (hst : isStarred e = false := by rfl) (hi : interactive env = false := by rfl) (hd : (x == ("__debug__" : Str)) = false := by decide) (hxk : env.kindOf x = some .local := by rfl) :
    EX1 c n env W (.Expr (.Call (.Attribute (.Name x xp) "append" ap) [e] [] cp) pos) ρ Φ := by
  intro A s Z Z₀ h₀ Q E g S hq
  obtain ⟨a, vs, e1, e2, e3, e4, e5⟩ := S.hots x l hl
  have hs1 : ([e].all fun e => !isStarred e) = true := by simp [hst]
  have hvl : EVL c n env ρ [e] [p] := ⟨he, trivial⟩
  refine wpAny_Expr ?_ hi rfl
  refine MethodCall_ (pl := pl) (wpAny_Name ?_ hd) hc1
  obtain ⟨m, hm, hmx⟩ : ∃ m, s.heap.Ns env.locals m ∧ m x = some (.ref a) := by
    rcases e1 with ⟨_, m, n', e⟩ | ⟨hk, _⟩
    · exact ⟨m, n', e⟩
    · rw [hxk] at hk; rcases hk with hk | hk <;> cases hk
  refine wpAny_loadName_local S.fr.ok.kind hxk hm hmx ?_
  obtain ⟨nn, e4'⟩ := id e4
  refine getMethod_list_append e4' rfl rfl ?_
  refine callWith_builtin (noStar hs1) (hvl.args hs1 g S.baseNow S.fr S.z fun us h1 t1 k1 r1 => ?_)
  obtain ⟨v, rfl, rv⟩ := r1.is1
  have S1 := S.keeps k1
  have e4k : h1.PlainList a vs.toArray := ⟨nn, k1 _ _ e4'⟩
  have e5k := e5.keep k1
  have hz : vs.toArray.size ≤ sizeLine := by
    have := e5.length
    simp only [List.size_toArray]
    omega
  refine wpAny_list_append_plain (s := { s with heap := h1, toks := t1 }) (hsz := hz) e4k fun h2 hl2 hs2 => ?_
  obtain ⟨S2, kb2⟩ := (S1.weak hc).changed e4k hl2 hs2 e2 e3 hnh
  have e1k : Holds env h2 x (.ref a) := by
    rcases e1.keep k1 with ⟨k1', m', n', e⟩ | ⟨k1', b, e1', e2'⟩
    · exact .inl ⟨k1', m', n'.sameBut hs2 (Ne.symm (Ns.ne_list n' e4k)), e⟩
    · exact .inr ⟨k1', b, e1', e2'.sameBut hs2 (Ne.symm (IsCell.ne_list e2' e4k))⟩
  have S3 := S2.addHot (x := x) (l := l ++ [p]) (vs := vs ++ [v]) e1k e2 e3 (by simpa using hl2) ((e5k.append (.one rv)).but kb2)
  exact hq _ _ _ Z h2 t1 h .next S3 ((KeepBut.of k1).trans' kb2 fun _ z => .inl z) fun _ z => .inl z

theorem EX1.retHot {x : Str} {xp pos : Pos} {l : List PV} {Φ : PF → PEnv → Prop} (hl : ρ.lookup x = some (.hot l)) (h : Φ (.ret (.list l)) []) (hd : (x == ("__debug__" : Str)) = false := by decide) (hxk : env.kindOf x = some .local := by rfl) :
    EX1 c n env W (.Return (some (.Name x xp)) pos) ρ Φ := by
  intro A s Z Z₀ h₀ Q E g S hq
  obtain ⟨a, vs, e1, e2, e3, e4, e5⟩ := S.hots x l hl
  obtain ⟨m, hm, hmx⟩ : ∃ m, s.heap.Ns env.locals m ∧ m x = some (.ref a) := by
    rcases e1 with ⟨_, m, n', e⟩ | ⟨hk, _⟩
    · exact ⟨m, n', e⟩
    · rw [hxk] at hk; rcases hk with hk | hk <;> cases hk
  refine wpAny_Return_some (wpAny_Name (wpAny_loadName_local S.fr.ok.kind hxk hm hmx ?_) hd)
  have S' : St c env W h₀ Z₀ s.heap (fun b => Z b ∧ b ≠ a) [] := by
    obtain ⟨m, hm⟩ := S.wr.ns
    refine ⟨S.base, S.keep, ⟨S.fr.ok, fun x p e => by simp at e⟩, { S.wr with hot := ⟨S.wr.hot, Ne.symm (Ns.ne_list hm e4)⟩, cell := fun x hx hk => ?_ }, fun b q => S.z b q.1, fun b q => ⟨S.z0 b q, fun e => ?_⟩, S.zn, fun x l e => by simp at e⟩
    · obtain ⟨b, v, f1, f2, f3, f4⟩ := S.wr.cell x hx hk
      exact ⟨b, v, f1, f2, f3, f4, Ne.symm (IsCell.ne_list f2 e4)⟩
    · obtain ⟨o, e'⟩ := S.zn b q
      rw [e, e3] at e'; cases e'
  have hr : Rel s.heap (fun b => Z b ∧ b ≠ a) (.list l) (.ref a) := .list (fun q => q.2 rfl) e4 (e5.zone fun b o e q => q.1)
  exact hq _ _ [] _ s.heap s.toks h (.ret hr) S' (fun _ _ _ e => e) fun b q => .inl q.1

theorem EX1.try {body : List Stmt} {hs : List ExceptHandler} {pos : Pos} {Φ : PF → PEnv → Prop} (h : EX c n env W body ρ Φ) : EX1 c n env W (.Try body hs [] [] pos) ρ Φ := by
  intro A s Z Z₀ h₀ Q E g S hq
  show wpAny _ _ (do standAt pos; tryStmt false (execs body env) hs (execs [] env) [] env) _ _ _
  refine wpAny_bind (wpAny_standAt ?_)
  unfold tryStmt
  simp only [List.isEmpty_nil, if_true]
  show wpAny _ _ ((execs body env).attempt >>= _) _ _ _
  refine wpAny_bind (wpAny_attempt (h A s Z Z₀ h₀ _ _ g S fun fl f ρ' Z' h' tk hf rf S' kb zn => ?_))
  cases rf with
  | next => exact wpAny_execs_nil (hq _ _ ρ' Z' h' tk hf .next S' kb zn)
  | ret r => exact wpAny_pure (hq _ _ ρ' Z' h' tk hf (.ret r) S' kb zn)
end Mine
end

/-! PlN -/
section
set_option maxRecDepth 100000
set_option maxHeartbeats 4000000
namespace Mine
open PySem PySem.W PyProof.Rows PySem.Calls PySem.Spec
variable {c : Cx} {n : Nat} {env : Env} {W : List Str} {ρ : PEnv}

/-! sorted, by a key that gives texts back. -/
noncomputable abbrev NotLess (a b : Str) : Prop := ¬ b.cps.toList < a.cps.toList

theorem relL_strs {h : Heap} {Z : Addr → Prop} {l : List Str} : ∀ {vs : List Value}, RelL h Z (l.map .str) vs → StrsAre vs l := by
  induction l with
  | nil =>
    intro vs r
    rw [RelL.nilInv r]
    exact .nil
  | cons x l ih =>
    intro vs r
    obtain ⟨v, us, rfl, a, r'⟩ := RelL.inv (p := .str x) (ps := l.map .str) r
    obtain ⟨t, rfl⟩ := Rel.strInv a
    exact .cons x t (ih r')
theorem strs_relL {h : Heap} {Z : Addr → Prop} : ∀ {vs : List Value} {l : List Str}, StrsAre vs l → RelL h Z (l.map .str) vs
  | _, _, .nil => .nil
  | _, _, .cons x t r => .cons (.str x t) (strs_relL r)
theorem strs_snoc {x : Str} {t : Tok} : ∀ {vs : List Value} {ss : List Str}, StrsAre vs ss → StrsAre (vs ++ [.str x t]) (ss ++ [x])
  | _, _, .nil => .cons _ _ .nil
  | _, _, .cons y u h => .cons y u (strs_snoc h)
theorem strs_length : ∀ {vs : List Value} {ss : List Str}, StrsAre vs ss → vs.length = ss.length
  | _, _, .nil => rfl
  | _, _, .cons _ _ h => congrArg (· + 1) (strs_length h)
theorem strs_zip : ∀ {ks vs : List Value} {ss : List Str}, StrsAre ks ss → StrsAre vs ss → ∀ p ∈ ks.zip vs, ∃ x t u, p = (.str x t, .str x u)
  | _, _, _, .nil, .nil, p, hp => by simp at hp
  | _, _, _, .cons x t h, .cons _ u h', p, hp => by
    rw [List.zip_cons_cons] at hp
    rcases List.mem_cons.mp hp with rfl | hp
    · exact ⟨x, t, u, rfl⟩
    · exact strs_zip h h' p hp
theorem strs_zip_map : ∀ {ks vs : List Value} {ss : List Str}, StrsAre ks ss → StrsAre vs ss → (ks.zip vs).map (fun p => strOf p.1) = ss
  | _, _, _, .nil, .nil => rfl
  | _, _, _, .cons x t h, .cons _ u h' => by
    rw [List.zip_cons_cons, List.map_cons, strs_zip_map h h']; rfl

theorem sorted_key_out {ks vs : List Value} {ss : List Str} (hK : StrsAre ks ss) (hS : StrsAre vs ss) {xs : Array Keyed} (hp : xs.Perm (ks.toArray.zip vs.toArray)) (hs : SortedToK strKind xs xs.size) :
    ∃ ss', StrsAre (xs.map (·.2)).toList ss' ∧ ss'.Perm ss ∧ ss'.Pairwise NotLess := by
  have e0 : (ks.toArray.zip vs.toArray).toList = ks.zip vs := by simp
  have hl : xs.toList.Perm (ks.zip vs) := by rw [← e0]; exact Array.perm_iff_toList_perm.mp hp
  have hmem : ∀ p ∈ xs.toList, ∃ x t u, p = (.str x t, .str x u) := fun p q => strs_zip hK hS p (hl.mem_iff.mp q)
  refine ⟨xs.toList.map (fun p => strOf p.1), ?_, ?_, ?_⟩
  · have e1 : (xs.map (·.2)).toList = xs.toList.map (·.2) := by simp
    have e2 : xs.toList.map (fun p : Keyed => strOf p.1) = (xs.toList.map (·.2)).map strOf := by
      rw [List.map_map]
      refine List.map_congr_left fun p q => ?_
      obtain ⟨x, t, u, rfl⟩ := hmem p q
      rfl
    rw [e1, e2]
    refine strsAre_map _ fun v hv => ?_
    obtain ⟨p, q, rfl⟩ := List.mem_map.mp hv
    obtain ⟨x, t, u, rfl⟩ := hmem p q
    exact ⟨x, u, rfl⟩
  · have := hl.map (fun p : Keyed => strOf p.1)
    rwa [strs_zip_map hK hS] at this
  · rw [List.pairwise_iff_getElem]
    intro i j hi hj hij
    have hi' : i < xs.size := by simpa using hi
    have hj' : j < xs.size := by simpa using hj
    have h1 := hs i j (Nat.le_of_lt hij) hj'
    obtain ⟨x, t, u, ex⟩ := hmem xs[i] (by simp)
    obtain ⟨y, t', u', ey⟩ := hmem xs[j] (by simp)
    rw [KK_str hi' ex, KK_str hj' ey] at h1
    change decide (y.cps.toList < x.cps.toList) = false at h1
    have e1 : (List.map (fun p : Keyed => strOf p.fst) xs.toList)[i] = x := by simp [ex, strOf]
    have e2 : (List.map (fun p : Keyed => strOf p.fst) xs.toList)[j] = y := by simp [ey, strOf]
    show ¬ _
    rw [e1, e2]
    exact of_decide_eq_false h1

theorem str_ext {a b : Str} (h : a.cps.toList = b.cps.toList) : a = b := by
  cases a; cases b; congr; exact Array.toList_inj.mp h
theorem sorted_unique : ∀ {xs ys : List Str}, xs.Perm ys → xs.Pairwise NotLess → ys.Pairwise NotLess → xs = ys
  | [], ys, p, _, _ => by rw [List.nil_perm.mp p]
  | x :: xs, [], p, _, _ => by simp at p
  | x :: xs, y :: ys, p, hx, hy => by
    have hxy : x = y := by
      by_cases e : x = y
      · exact e
      · have m1 : x ∈ ys := by
          rcases List.mem_cons.mp (p.mem_iff.mp (.head _)) with q | q
          · exact absurd q e
          · exact q
        have m2 : y ∈ xs := by
          rcases List.mem_cons.mp (p.mem_iff.mpr (.head _)) with q | q
          · exact absurd q.symm e
          · exact q
        have h1 : ¬ y.cps.toList < x.cps.toList := (List.pairwise_cons.mp hx).1 y m2
        have h2 : ¬ x.cps.toList < y.cps.toList := (List.pairwise_cons.mp hy).1 x m1
        exact str_ext (List.le_antisymm (List.not_lt.mp h1) (List.not_lt.mp h2))
    subst hxy
    rw [sorted_unique (List.perm_cons x |>.mp p) (List.pairwise_cons.mp hx).2 (List.pairwise_cons.mp hy).2]

theorem kind_key {ks : List Value} {ss : List Str} (hK : StrsAre ks ss) (h2 : 2 ≤ ks.length) : keyKind' ks.toArray = pure oneType' := by
  match ks, h2 with
  | v₁ :: v₂ :: r, _ => exact keyKind_strs hK

section
variable {A : Around} {E : Value → Shared → Prop} {s : Shared} {h₀ : Heap} {Z : Addr → Prop}

theorem Keep.upd {h₀ h h' : Heap} {a : Addr} (k : Keep h₀ h) (s : Heap.SameBut a h h') (e : h₀.get? a = none) : Keep h₀ h' := fun b o q =>
  (s.2 b (fun x => by rw [x, e] at q; cases q)).trans (k b o q)

theorem key_tail {st : SortSt} {a kS : Addr} {ks vs : List Value} {ss : List Str} {e e1 : Nat} {P : PySem.Fin → Shared → Prop} (k0 : Keep h₀ s.heap) (hk : s.heap.get? kS = some (seqObj "list" ks.toArray e)) (ha : s.heap.get? a = some (seqObj "list" #[] e1)) (hne : kS ≠ a) (nk : h₀.get? kS = none) (na : h₀.get? a = none)
    (hK : StrsAre ks ss) (hS : StrsAre vs ss) (h64 : vs.length < 64) (hp : (arrOf st).Perm (ks.toArray.zip vs.toArray)) (hs : SortedToK strKind (arrOf st) (arrOf st).size) (hfl : failedOf st = none)
    (h : ∀ h' tk out ys k, Keep h₀ h' → h'.get? a = some (seqObj "list" out k) → StrsAre out.toList ys → ys.Perm ss → ys.Pairwise NotLess → P (.done (.ret .none)) { s with heap := h', toks := tk }) :
    wpAny c.M A (ksk_tail a false e1 (.ref kS) st) P E s := by
  have l1 := strs_length hK
  have l2 := strs_length hS
  have hsz : (arrOf st).size = vs.length := by rw [hp.size_eq, Array.size_zip, List.size_toArray, List.size_toArray]; omega
  unfold ksk_tail
  try dsimp only
  have s1 := Heap.SameBut.update s.heap kS (Obj.mapSeq fun _ => (#[] : Array Value))
  have na1 := (s1.2 a hne.symm).trans ha
  refine wpAny_bind (listUpdate_at hk rfl ?_ (by rw [List.size_toArray, sizeLine_eq]; omega) (Nat.zero_le _))
  refine wpAny_bind (wpAny_letGo ?_)
  refine wpAny_bind (seqEpoch_at na1 rfl ?_)
  refine wpAny_bind (listUpdate_at na1 rfl ?_ (Nat.zero_le _) (by simp only [Bool.false_eq_true, if_false, Array.size_map]; rw [hsz, sizeLine_eq]; omega))
  rw [hfl]
  simp only [bne_self_eq_false, Bool.false_eq_true, if_false]
  obtain ⟨ys, y1, y2, y3⟩ := sorted_key_out hK hS hp hs
  have s2 := Heap.SameBut.update (s.heap.update kS (Obj.mapSeq fun _ => (#[] : Array Value))) a (Obj.mapSeq fun _ => (arrOf st).map (·.2))
  exact wpAny_pure (h _ _ _ ys _ ((k0.upd s1 nk).upd s2 na) (get?_update_seq na1 fun _ => (arrOf st).map (·.2)) y1 y2 y3)

theorem key_end {a kS : Addr} {ks vs : List Value} {ss : List Str} {e e1 : Nat} {P : PySem.Fin → Shared → Prop} (k0 : Keep h₀ s.heap) (hk : s.heap.get? kS = some (seqObj "list" ks.toArray e)) (ha : s.heap.get? a = some (seqObj "list" #[] e1)) (hne : kS ≠ a) (nk : h₀.get? kS = none) (na : h₀.get? a = none)
    (hK : StrsAre ks ss) (hS : StrsAre vs ss) (h64 : vs.length < 64) 
    (h : ∀ h' tk out ys k, Keep h₀ h' → h'.get? a = some (seqObj "list" out k) → StrsAre out.toList ys → ys.Perm ss → ys.Pairwise NotLess → P (.done (.ret .none)) { s with heap := h', toks := tk }) :
    wpAny c.M A (ksk_end a false vs.toArray e1 (.ref kS) ks.toArray) P E s := by
  have l1 := strs_length hK
  have l2 := strs_length hS
  have hzs : (ks.toArray.zip vs.toArray).size = vs.length := by rw [Array.size_zip, List.size_toArray, List.size_toArray]; omega
  unfold ksk_end
  try dsimp only
  simp only [Bool.false_eq_true, if_false]
  by_cases h2 : vs.toArray.size < 2
  · rw [if_pos h2, if_pos h2]
    refine wpAny_bind (wpAny_pure ?_)
    rw [StateT.run_pure]
    refine wpAny_bind (wpAny_pure ?_)
    try dsimp only
    refine key_tail (st := SortSt.mk' general' (ks.toArray.zip vs.toArray) #[] 7 none) k0 hk ha hne nk na hK hS h64 (Array.Perm.refl _) ?_ rfl h
    intro i j hij hj
    have hj2 : j < (ks.toArray.zip vs.toArray).size := hj
    rw [hzs] at hj2
    rw [List.size_toArray] at h2
    have : i = j := by omega
    subst this
    exact strKind.toKeyOrd.irrefl _
  · rw [if_neg h2, if_neg h2]
    rw [List.size_toArray] at h2
    rw [kind_key hK (by omega)]
    refine wpAny_bind (wpAny_pure ?_)
    refine wpAny_bind (wpAny_mono (wpS_sortRunsK (κ := strKind) (a₀ := ks.toArray.zip vs.toArray) (st := SortSt.mk' oneType' (ks.toArray.zip vs.toArray) #[] 7 none)
      (Q := fun _ st' => (arrOf st').Perm (ks.toArray.zip vs.toArray) ∧ failedOf st' = none ∧ SortedToK strKind (arrOf st') (ks.toArray.zip vs.toArray).size)
      strKind_oneLt (fun p hp => ?_) ⟨Array.Perm.refl _, rfl, rfl, rfl⟩ (by rw [hzs]; omega) (by rw [hzs]; exact h64) fun st' a1 a2 a3 => ⟨a1, a2, a3⟩) ?_ fun _ _ e => e)
    · have e0 : (ks.toArray.zip vs.toArray).toList = ks.zip vs := by simp
      rw [e0] at hp
      obtain ⟨x, t, u, rfl⟩ := strs_zip hK hS p hp
      exact ⟨x.cps.toList, rfl⟩
    · rintro ⟨⟨⟩, st'⟩ s' ⟨rfl, hp, hf, hs⟩
      try dsimp only
      exact key_tail k0 hk ha hne nk na hK hS h64 hp (by rw [hp.size_eq]; exact hs) hf h

theorem key_rest {f : Value} {a kS : Addr} {vs : List Value} {ss : List Str} {e1 : Nat} {P : PySem.Fin → Shared → Prop} (k0 : Keep h₀ s.heap) (hk : s.heap.get? kS = some (seqObj "list" #[] 0)) (ha : s.heap.get? a = some (seqObj "list" #[] e1)) (hne : kS ≠ a) (nk : h₀.get? kS = none) (na : h₀.get? a = none)
    (hS : StrsAre vs ss) (h64 : vs.length < 64) (g : Good n A) (b : c.Base h₀) (hc : ∀ x ∈ ss, CallV c n f [.str x] (.str x))
    (h : ∀ h' tk out ys k, Keep h₀ h' → h'.get? a = some (seqObj "list" out k) → StrsAre out.toList ys → ys.Perm ss → ys.Pairwise NotLess → P (.done (.ret .none)) { s with heap := h', toks := tk }) :
    wpAny c.M A (ksk_rest a f false vs.toArray e1 (.ref kS)) P E s := by
  have l2 := strs_length hS
  unfold ksk_rest
  refine wpAny_bind (wpAny_rule ?_)
  first
    | rw [List.forIn_toArray]
    | (rw [← Array.forIn_toList]; simp only [List.toList_toArray])
    | rw [← Array.forIn_toList]
  refine wpAny_bind (ksk_fold (fun i s' => ∃ h' tk ks e, s' = { s with heap := h', toks := tk } ∧ Keep h₀ h' ∧ h'.get? kS = some (seqObj "list" (List.toArray ks) e) ∧ h'.get? a = some (seqObj "list" #[] e1) ∧ StrsAre ks (ss.take i)) vs 0 s
    ⟨s.heap, s.toks, [], 0, rfl, k0, hk, ha, .nil⟩ ?step ?done)
  case step =>
    rintro j x s' hx ⟨h', tk, ks, e, rfl, k1, hk1, ha1, hK⟩
    simp only [Nat.zero_add] at hK ⊢
    have hj : j < vs.length := (List.getElem?_eq_some_iff.mp hx).1
    obtain ⟨y, hy⟩ : ∃ y, ss[j]? = some y := ⟨_, List.getElem?_eq_getElem (by omega)⟩
    obtain ⟨v, hv, rv⟩ := (strs_relL (h := h') (Z := fun _ => False) hS).get (i := j) (p := .str y) (by rw [List.getElem?_map, hy]; rfl)
    rw [hx] at hv; cases hv
    have hz := strs_length hK
    rw [List.length_take] at hz
    refine wpAny_bind (wpAny_attempt ?_)
    refine hc y (List.mem_of_getElem? hy) A { s with heap := h', toks := tk } (fun _ => False) [x] g (b.keep k1) (fun _ q => q.elim) (.one rv) _ _ fun v2 h2 t2 k2 r2 => ?_
    cases r2 with
    | str _ tt =>
      try dsimp only
      have hk2 := k2 _ _ hk1
      have ha2 := k2 _ _ ha1
      have s1 := Heap.SameBut.update h2 kS (Obj.mapSeq (·.push (.str y tt)))
      refine wpAny_bind (listUpdate_at (f := (·.push (.str y tt))) hk2 rfl ?_ (by rw [List.size_toArray, sizeLine_eq]; omega) (Nat.le_trans (Nat.le_of_eq (Array.size_push ..)) (by rw [List.size_toArray, sizeLine_eq]; omega)))
      obtain ⟨c2, hc2⟩ : ∃ c2, (h2.update kS (Obj.mapSeq (·.push (.str y tt)))).get? kS = some (seqObj "list" (List.toArray (ks ++ [Value.str y tt])) c2) := by
        have ee : List.toArray (ks ++ [Value.str y tt]) = (List.toArray ks).push (Value.str y tt) := by simp
        rw [ee]
        exact ⟨_, get?_update_seq hk2 (·.push (.str y tt))⟩
      refine wpAny_pure ⟨rfl, _, _, ks ++ [.str y tt], c2, rfl, (k1.trans k2).upd s1 nk, hc2, (s1.2 a hne.symm).trans ha2, ?_⟩
      · rw [List.take_add_one, hy]
        exact strs_snoc hK
  case done =>
    rintro s' ⟨h', tk, ks, e, rfl, k1, hk1, ha1, hK⟩
    rw [show ss.take (0 + vs.length) = ss from List.take_of_length_le (by omega)] at hK
    try dsimp only
    refine wpAny_bind (listItems_at hk1 rfl ?_)
    exact key_end k1 hk1 ha1 hne nk na hK hS h64 h

theorem key_sort {f : Value} {a : Addr} {vs : List Value} {ss : List Str} {m : Nat} {P : PySem.Fin → Shared → Prop} (k0 : Keep h₀ s.heap) (ho : s.heap.get? a = some (seqObj "list" vs.toArray m)) (na : h₀.get? a = none)
    (hS : StrsAre vs ss) (h64 : vs.length < 64) (g : Good n A) (b : c.Base h₀) (hc : ∀ x ∈ ss, CallV c n f [.str x] (.str x))
    (h : ∀ h' tk out ys k, Keep h₀ h' → h'.get? a = some (seqObj "list" out k) → StrsAre out.toList ys → ys.Perm ss → ys.Pairwise NotLess → P (.done (.ret .none)) { s with heap := h', toks := tk }) :
    wpAny c.M A (ksk_tree a f false) P E s := by
  have hla : a < s.heap.objs.size := Heap.lt_size ho
  have s1 := Heap.SameBut.update s.heap a (Obj.mapSeq fun _ => (#[] : Array Value))
  obtain ⟨e1, ho1⟩ : ∃ e1, (s.heap.update a (Obj.mapSeq fun _ => (#[] : Array Value))).get? a = some (seqObj "list" #[] e1) := ⟨_, get?_update_seq ho fun _ => #[]⟩
  have hkS : ((s.heap.update a (Obj.mapSeq fun _ => (#[] : Array Value))).push (seqObj "tuple" vs.toArray 0)).objs.size = s.heap.objs.size + 1 := by rw [size_push', Heap.size_update]
  have k1 := k0.upd s1 na
  unfold ksk_tree
  refine wpAny_bind (listItems_at ho rfl ?_)
  refine wpAny_bind (listUpdate_at ho rfl ?_ (by rw [List.size_toArray, sizeLine_eq]; omega) (Nat.zero_le _))
  refine wpAny_bind (seqEpoch_at ho1 rfl ?_)
  refine wpAny_bind (wpAny_newTuple ?_ (by show vs.length ≤ _; rw [sizeLine_eq]; omega))
  refine wpAny_bind (wpAny_newList ?_ (Nat.zero_le _))
  refine wpAny_holding ?_
  have kp : ∀ (h : Heap) ob, Keep h (h.push ob) := fun h ob b o e => Heap.get?_push_of_some _ e
  refine key_rest (s := { s with heap := ((s.heap.update a (Obj.mapSeq fun _ => (#[] : Array Value))).push (seqObj "tuple" vs.toArray 0)).push (seqObj "list" #[] 0) }) (kS := ((s.heap.update a (Obj.mapSeq fun _ => (#[] : Array Value))).push (seqObj "tuple" vs.toArray 0)).objs.size)
    ((k1.trans (kp _ _)).trans (kp _ _)) (Heap.get?_push_size _ rfl) (kp _ _ _ _ (kp _ _ _ _ ho1)) (by rw [hkS]; exact Nat.ne_of_gt (Nat.lt_succ_of_lt hla)) ?_ na hS h64 g b hc h
  cases q : h₀.get? ((s.heap.update a (Obj.mapSeq fun _ => (#[] : Array Value))).push (seqObj "tuple" vs.toArray 0)).objs.size with
  | none => rfl
  | some o => exact absurd (Heap.lt_size (k0 _ _ q)) (by rw [hkS]; exact Nat.not_lt.mpr (Nat.le_succ _))

theorem Good.in11 (g : Good (n + 1) A) : Good n A.in1.in1 := ⟨g.handled, by have := g.depth; show A.depth + n < 900; omega, by have := g.units; show A.units + 1 + 1 + 3 * n < 1000; omega⟩

theorem call_sorted_key {fa : Addr} {vl : Value} {ss ys : List Str} (g : Good (n + 1) A) (b : c.Base s.heap) (z : ZOk Z s.heap) (r : Rel s.heap Z (.list (ss.map .str)) vl) (h64 : ss.length < 64)
    (hc : ∀ x ∈ ss, CallV c n (.ref fa) [.str x] (.str x)) (hp : ys.Perm ss) (hs : ys.Pairwise NotLess) : Gv c A Z s (call (.builtin "sorted") [vl] [(Str.ofString "key", .ref fa)]) (.list (ys.map .str)) := by
  intro Q E hq
  cases r with
  | list za la ra =>
    rename_i l' vs
    have hS := relL_strs ra
    have l2 := strs_length hS
    refine call_function_entry_kw kind_sorted plain_sorted entry_sorted (ksk_s1 _ _) ?_
    unfold Builtin.«sorted»
    refine wpAny_bind (m := checkCount "sorted" 1 1 _) (wpAny_pure ?_)
    refine wpAny_bind (collect_list la.isList ?_ (by rw [sizeLine_eq]; omega))
    refine wpAny_bind (wpAny_newList ?_ (by rw [sizeLine_eq]; omega))
    have hsz : ((s.heap.push (seqObj "list" #[] 0)).update s.heap.objs.size (Obj.mapSeq (· ++ vs.toArray))).objs.size = s.heap.objs.size + 1 := by
      rw [Heap.size_update, size_push']
    have hoL : (((s.heap.push (seqObj "list" #[] 0)).update s.heap.objs.size (Obj.mapSeq (· ++ vs.toArray))).push (seqObj "list" vs.toArray 0)).get? (s.heap.objs.size + 1) = some (seqObj "list" vs.toArray 0) := by
      rw [← hsz]; exact Heap.get?_push_size _ rfl
    have keep : Keep s.heap (((s.heap.push (seqObj "list" #[] 0)).update s.heap.objs.size (Obj.mapSeq (· ++ vs.toArray))).push (seqObj "list" vs.toArray 0)) := fun b o q => by
      have hlt : b < s.heap.objs.size := Heap.lt_size q
      rw [Heap.get?_push_ne _ _ _ (by rw [hsz]; exact Nat.ne_of_lt (Nat.lt_succ_of_lt hlt)), Heap.get?_update_ne _ _ _ _ (Nat.ne_of_lt hlt), Heap.get?_push_ne _ _ _ (Nat.ne_of_lt hlt)]
      exact q
    show wpAny _ _ _ _ _ { s with heap := ((s.heap.push (seqObj "list" #[] 0)).update s.heap.objs.size (Obj.mapSeq (· ++ vs.toArray))).push (seqObj "list" vs.toArray 0) }
    rw [hsz]
    refine wpAny_bind (wpAny_holding (wpAny_call_entry_kw slot_list_sort ⟨_, hoL, rfl⟩ entry_list_sort ?body (ksk_l1 _ _)))
    case body =>
      show wpAny c.M A.in1.in1 (Builtin.«list.sort» ⟨[.ref (s.heap.objs.size + 1)], [(Str.ofString "key", .ref fa)]⟩) _ _ _
      rw [ksk_t1]
      have nn : s.heap.get? (s.heap.objs.size + 1) = none := fresh_none (Nat.le_succ _)
      refine key_sort (s := { s with heap := ((s.heap.push (seqObj "list" #[] 0)).update s.heap.objs.size (Obj.mapSeq (· ++ vs.toArray))).push (seqObj "list" vs.toArray 0) }) keep hoL nn hS (by omega) g.in11 b hc
        fun h' tk out ws k k' ho' hw hpw hsw => ⟨_, rfl, ?_⟩
      have ew : ws = ys := sorted_unique (hpw.trans hp.symm) hsw hs
      subst ew
      refine wpAny_pure ⟨_, rfl, hq _ h' tk k' (.list (vs := out.toList) (fun q => ?_) ⟨k, by rw [Array.toArray_toList]; exact ho'⟩ (strs_relL hw))⟩
      obtain ⟨o, e⟩ := z _ q
      rw [nn] at e; cases e
end

theorem EV.sortedKey {e : Expr} {f fk : Str} {fp kp pos : Pos} {kpos : Pos} {ss ys : List Str} {fa : Addr} (he : EV c (n + 1) env ρ e (.list (ss.map .str))) (h64 : ss.length < 64)
    (hc : ∀ x ∈ ss, CALL c n fk [.str x] (.str x)) (hp : ys.Perm ss) (hs : ys.Pairwise NotLess)
    (hx : env.kindOf f = some .globalImplicit) (hm : c.mg f = none) (hb : bootBuiltins f = some (.builtin "sorted"))
    (hx2 : env.kindOf fk = some .globalImplicit) (hm2 : c.mg fk = some (.ref fa)) (hn : f ≠ "__name__" := by decide)
    (hd : (f == ("__debug__" : Str)) = false := by decide) (hd2 : (fk == ("__debug__" : Str)) = false := by decide) (hst : isStarred e = false := by rfl) :
    EV c (n + 1) env ρ (.Call (.Name f fp) [e] [⟨some (Str.ofString "key"), .Name fk kp, kpos⟩] pos) (.list (ys.map .str)) := by
  intro A s Z g b F z Q E h
  show wpAny _ _ (eval (.Name f fp) env >>= fun v => callWith pos v [] (backTo pos (starEach [e] env)) (backToKw pos (keywordEach [⟨some (Str.ofString "key"), .Name fk kp, kpos⟩] env))) _ _ _
  refine wpAny_bind (wp_nameB (c := c) hx hm hb hn hd b F.ok ?_)
  have e1 : starEach [e] env = [(false, eval e env)] := by
    cases e <;> first | rfl | (exfalso; simp [isStarred] at hst)
  have hs1 : ([e].all fun e => !isStarred e) = true := by simp [hst]
  refine callWith_kw ?_ (by rw [e1]; rfl) (noStar hs1) rfl rfl
  have hvl : EVL c (n + 1) env ρ [e] [.list (ss.map .str)] := ⟨he, trivial⟩
  refine hvl.spliced hs1 g b F z _ _ fun vs h1 t1 k1 r1 => ?_
  obtain ⟨v, rfl, rv⟩ := r1.is1
  show wpAny _ A (evalAll [do let v ← eval (.Name fk kp) env; standAt pos; pure v]) (fun kvs s₂ => wpAny _ A (call (.builtin "sorted") [v] ([Str.ofString "key"].zip kvs)) Q E s₂) E { s with heap := h1, toks := t1 }
  refine evalAll_cons (wpAny_bind ?_)
  refine Name_function_global F.ok.kind hx2 (loadGlobal_global (env := env) (mg := c.mg) (by rw [F.ok.globals]; exact (b.keep k1).g) hm2 ?_) hd2
  refine wpAny_bind (wpAny_standAt (wpAny_pure (evalAll_nil ?_)))
  exact call_sorted_key g (b.keep k1) (z.keep k1) rv h64 (fun x q => hc x q fa hm2) hp hs Q E fun v2 h2 t2 k2 r2 => h v2 h2 t2 (k1.trans k2) r2
end Mine
end

/-! PlO -/
section
set_option maxRecDepth 100000
set_option maxHeartbeats 400000
namespace Mine
open PySem PySem.W PyProof.Rows PySem.Calls PySem.Spec PySem.Builtin.Str
variable {c : Cx} {n : Nat} {env : Env} {W : List Str} {ρ : PEnv}

/-! Methods of the built-in types. -/
noncomputable def MethOK (c : Cx) (name : Str) (id : String) (p : PV) : Prop :=
  ∀ (A : Around) (s : Shared) (Z : Addr → Prop) (v : Value) (pl : Sem Bool) (Q : Value × List Value → Shared → Prop) (E : Value → Shared → Prop), Rel s.heap Z p v → Q (.builtin id, [v]) s → wpAny c.M A (getMethod v name pl) Q E s

theorem EV.meth {o : Expr} {name : Str} {apos pos : Pos} {args : List Expr} {pl : Sem Bool} {po p : PV} {ps : List PV} {id : String} (ho : EV c n env ρ o po) (ha : EVL c n env ρ args ps) (hm : MethOK c name id po) (hc : CallV c n (.builtin id) (po :: ps) p)
    (he : PySem.eval (.Call (.Attribute o name apos) args [] pos) env = (do
      let ov ← PySem.eval o env
      standAt apos.atName
      let (f, first) ← holding [ov] (getMethod ov name pl)
      callWith pos f first (backTo pos (starEach args env)) []) := by rfl) (hs : (args.all fun e => !isStarred e) = true := by rfl) : EV c n env ρ (.Call (.Attribute o name apos) args [] pos) p := by
  intro A s Z g b F z Q E h
  refine MethodCall_ (pl := pl) (ho A s Z g b F z _ _ fun v h1 t1 k1 r1 => ?_) he
  refine hm A { s with heap := h1, toks := t1 } Z v pl _ _ r1 ?_
  refine callWith_builtin (noStar hs) (ha.args hs g (b.keep k1) (F.keep k1) (z.keep k1) fun us h2 t2 k2 r2 => ?_)
  exact hc A _ Z (v :: us) g ((b.keep k1).keep k2) ((z.keep k1).keep k2) (.cons (r1.keep k2) r2) _ _ fun v3 h3 t3 k3 r3 => h v3 h3 t3 ((k1.trans k2).trans k3) r3

theorem MethOK.index {x : Str} : MethOK c (Str.ofString "index") "str.index" (.str x) := by
  intro A s Z v pl Q E r h
  cases r
  exact GM.index h
theorem MethOK.replace {x : Str} : MethOK c (Str.ofString "replace") "str.replace" (.str x) := by
  intro A s Z v pl Q E r h
  cases r
  exact GM.replace h
theorem MethOK.join {x : Str} : MethOK c (Str.ofString "join") "str.join" (.str x) := by
  intro A s Z v pl Q E r h
  cases r
  exact GM.join h
theorem MethOK.count {l : List PV} : MethOK c (Str.ofString "count") "list.count" (.list l) := by
  intro A s Z v pl Q E r h
  cases r with
  | list za la ra =>
    obtain ⟨m, ho⟩ := id la
    exact getMethod_list_of PySem.F.slot_list_count PySem.F.type_list_count la.isList ⟨_, ho, rfl⟩ h

theorem CallV.index {x y : Str} {i : Nat} {rest : List Nat} (ho : occurrences x y 0 x.length 1 = i :: rest) : CallV c n (.builtin "str.index") [.str x, .str y] (.int i) := by
  intro A s Z vs g b z r Q E h
  obtain ⟨v, u, rfl, r1, r2⟩ := r.is2
  cases r1; cases r2
  exact SC.index ho (h _ s.heap _ Keep.refl (.int _ _))
theorem CallV.replace {x y z : Str} {u v : Tok} (hu : u ≠ 0) (hv : v ≠ 0) (huv : u ≠ v) (hyz : (y == z) = false) (hb : x.length + (x.length + 1) * z.length ≤ 16777216) :
    CallV c n (.builtin "str.replace") [.str x, .tstr y u, .tstr z v] (.str (Txt.replace x y z)) := by
  intro A s Z vs g b z r Q E h
  obtain ⟨v, u, w, rfl, r1, r2, r3⟩ := r.is3
  cases r1; cases r2; cases r3
  exact SC.replace hu hv huv hyz hb fun t' k => h _ s.heap k Keep.refl (.str _ _)
theorem CallV.join {x : Str} {ys : List Str} (hok : (ys.map (·.length)).sum + ys.length * x.length ≤ 16777216) : CallV c n (.builtin "str.join") [.str x, .list (ys.map .str)] (.str (Txt.join x ys)) := by
  intro A s Z vs g b z r Q E h
  obtain ⟨v, u, rfl, r1, r2⟩ := r.is2
  cases r1
  cases r2 with
  | list za la ra =>
    have hS := relL_strs ra
    exact join_list la.isList (by simpa using hS) hok fun t' k => h _ s.heap k Keep.refl (.str _ _)
theorem CallV.count {x : Str} {ys : List Str} : CallV c n (.builtin "list.count") [.list (ys.map .str), .str x] (.int (countIn (.str x) (ys.map PyData.str))) := by
  intro A s Z vs g b z r Q E h
  obtain ⟨v, u, rfl, r1, r2⟩ := r.is2
  cases r2
  cases r1 with
  | list za la ra => exact count_list_strs la.isList (relL_strs ra) (h _ s.heap _ Keep.refl (.int _ _))

/-! Cuts. -/
theorem picked_to (k : Int) (h0 : 0 ≤ k) (m : Nat) : strSliceIndices none (some k) 1 m = (List.range (min k.toNat m - 0)).map (0 + ·) := by
  rw [← sliceRange_one]
  unfold strSliceIndices
  simp only [show (1 : Int) > 0 by decide, if_true, if_neg (show ¬ (k < 0) by omega)]
  congr 1
  omega
theorem picked_from (k : Int) (h0 : 0 ≤ k) (m : Nat) : strSliceIndices (some k) none 1 m = (List.range (m - min k.toNat m)).map (min k.toNat m + ·) := by
  rw [← sliceRange_one]
  unfold strSliceIndices
  simp only [show (1 : Int) > 0 by decide, if_true, if_neg (show ¬ (k < 0) by omega)]
  congr 1
  omega

theorem EV.strTo {e k : Expr} {p pos : Pos} {x : Str} {i : Int} (he : EV c n env ρ e (.str x)) (hk : EV c n env ρ k (.int i)) (h0 : 0 ≤ i) (hz : x.length ≤ sizeLine) (ht : ∀ o r, letTemporaryGo e o r = pure () := by intro _ _; rfl) :
    EV c n env ρ (.Subscript e (.Slice none (some k) none p) pos) (.str ⟨(x.cps.toList.take i.toNat).toArray⟩) := by
  intro A s Z g b F z Q E h
  refine wpAny_Subscript_str_slice (he A s Z g b F z _ _ fun v h1 t1 k1 r1 => ?_) ht
  refine evalPart_none_step ?_
  refine hk A _ Z g (b.keep k1) (F.keep k1) (z.keep k1) _ _ fun u h2 t2 k2 r2 => ?_
  cases r1 with
  | str _ t =>
    cases r2 with
    | int _ t' =>
      refine ⟨x, t, none, some (i, t'), rfl, rfl, rfl, ?_⟩
      have e1 : slicePicked x none (some (i, t')) none = (List.range (min i.toNat x.length - 0)).map (0 + ·) := picked_to i h0 x.length
      have e2 : (slicePicked x none (some (i, t')) none).filterMap (x.cps[·]?) = x.cps.toList.take i.toNat := by
        rw [e1, pick_run, List.drop_zero, Nat.sub_zero]
        have := kmk_take_min x.cps.toList i.toNat
        rwa [Array.length_toList] at this
      unfold sliceMade
      rw [e2]
      have kp : ∀ (h : Heap) ob, Keep h (h.push ob) := fun h ob b o e => Heap.get?_push_of_some _ e
      split
      · rename_i hw
        rw [e1] at hw
        have hl : x.length ≤ i.toNat := by
          simp only [List.length_map, List.length_range, Bool.and_eq_true, beq_iff_eq] at hw
          omega
        have e3 : x.cps.toList.take i.toNat = x.cps.toList := List.take_of_length_le (by rw [Array.length_toList]; exact hl)
        rw [e3] at h
        exact h _ _ _ ((k1.trans k2).trans (kp _ _)) (.str _ _)
      · exact ⟨by show (x.cps.toList.take i.toNat).toArray.size ≤ _; rw [List.size_toArray, List.length_take, Array.length_toList]; exact Nat.le_trans (Nat.min_le_right _ _) hz, h _ _ _ ((k1.trans k2).trans (kp _ _)) (.str _ _)⟩
theorem EV.strFrom {e k : Expr} {p pos : Pos} {x : Str} {i : Int} (he : EV c n env ρ e (.str x)) (hk : EV c n env ρ k (.int i)) (h0 : 0 ≤ i) (hz : x.length ≤ sizeLine) (ht : ∀ o r, letTemporaryGo e o r = pure () := by intro _ _; rfl) :
    EV c n env ρ (.Subscript e (.Slice (some k) none none p) pos) (.str ⟨(x.cps.toList.drop i.toNat).toArray⟩) := by
  intro A s Z g b F z Q E h
  refine wpAny_Subscript_str_slice (he A s Z g b F z _ _ fun v h1 t1 k1 r1 => ?_) ht
  refine hk A _ Z g (b.keep k1) (F.keep k1) (z.keep k1) _ _ fun u h2 t2 k2 r2 => ?_
  refine evalPart_none_step ?_
  cases r1 with
  | str _ t =>
    cases r2 with
    | int _ t' =>
      refine ⟨x, t, some (i, t'), none, rfl, rfl, rfl, ?_⟩
      have e1 : slicePicked x (some (i, t')) none none = (List.range (x.length - min i.toNat x.length)).map (min i.toNat x.length + ·) := picked_from i h0 x.length
      have e2 : (slicePicked x (some (i, t')) none none).filterMap (x.cps[·]?) = x.cps.toList.drop i.toNat := by
        rw [e1, pick_run]
        have := kmk_drop_min x.cps.toList i.toNat
        rw [Array.length_toList] at this
        show List.take (x.cps.size - min i.toNat x.cps.size) (List.drop (min i.toNat x.cps.size) x.cps.toList) = _
        rw [this]
        refine List.take_of_length_le ?_
        rw [List.length_drop, Array.length_toList]
        omega
      unfold sliceMade
      rw [e2]
      have kp : ∀ (h : Heap) ob, Keep h (h.push ob) := fun h ob b o e => Heap.get?_push_of_some _ e
      split
      · rename_i hw
        rw [e1] at hw
        have hl : x.length - min i.toNat x.length = x.length := by simpa using hw
        have e3 : x.cps.toList.drop i.toNat = x.cps.toList := by
          by_cases q : x.cps.size = 0
          · have : x.cps.toList = [] := by
              apply List.eq_nil_of_length_eq_zero
              rw [Array.length_toList]; exact q
            rw [this]; simp
          · have : x.length = x.cps.size := rfl
            have : i.toNat = 0 := by omega
            rw [this]; rfl
        rw [e3] at h
        exact h _ _ _ ((k1.trans k2).trans (kp _ _)) (.str _ _)
      · exact ⟨by show (x.cps.toList.drop i.toNat).toArray.size ≤ _; rw [List.size_toArray, List.length_drop, Array.length_toList]; exact Nat.le_trans (Nat.sub_le _ _) hz, h _ _ _ ((k1.trans k2).trans (kp _ _)) (.str _ _)⟩

theorem RelL.take {h : Heap} {Z : Addr → Prop} : ∀ {ps : List PV} {vs : List Value} (k : Nat), RelL h Z ps vs → RelL h Z (ps.take k) (vs.take k)
  | _, _, 0, _ => by simpa using RelL.nil
  | _, _, _ + 1, .nil => by simpa using RelL.nil
  | _, _, k + 1, .cons a r => by simpa using RelL.cons a (r.take k)
theorem EV.listTo {e k : Expr} {p pos : Pos} {l : List PV} {i : Int} (he : EV c n env ρ e (.list l)) (hk : EV c n env ρ k (.int i)) (h0 : 0 ≤ i) (hz : l.length ≤ sizeLine) (ht : ∀ o r, letTemporaryGo e o r = pure () := by intro _ _; rfl) :
    EV c n env ρ (.Subscript e (.Slice none (some k) none p) pos) (.list (l.take i.toNat)) := by
  intro A s Z g b F z Q E h
  refine wpAny_Subscript_list_slice (he A s Z g b F z _ _ fun v h1 t1 k1 r1 => ?_) ht
  refine evalPart_none_step ?_
  refine hk A _ Z g (b.keep k1) (F.keep k1) (z.keep k1) _ _ fun u h2 t2 k2 r2 => ?_
  cases r2 with
  | int _ t' =>
    cases r1 with
    | list za la ra =>
      rename_i a vs
      have hl := ra.length
      have la2 : h2.PlainList a vs.toArray := let ⟨m, e⟩ := la; ⟨m, k2 _ _ e⟩
      refine ⟨a, vs.toArray, none, some i, rfl, la2.isList, by rw [List.size_toArray, ← hl]; exact hz, .none, .int i t', ?_⟩
      have e : sliceBounds none (some i) none vs.toArray.size = (((0 : Nat) : Int), ((min i.toNat vs.toArray.size : Nat) : Int), 1) := by
        simp only [sliceBounds, Option.getD_none, show (1 : Int) > 0 by decide, if_true, if_neg (show ¬ (i < 0) by omega)]
        congr 1
        congr 1
        omega
      rw [kmk_pick_nat _ e]
      have e2 : (List.drop 0 vs.toArray.toList).take (min i.toNat vs.toArray.size - 0) = vs.take i.toNat := by
        rw [List.drop_zero, Nat.sub_zero, List.size_toArray]
        exact kmk_take_min vs i.toNat
      rw [e2]
      have kp : ∀ (h : Heap) ob, Keep h (h.push ob) := fun h ob b o e => Heap.get?_push_of_some _ e
      have kk : Keep h1 ((h2.push { cls := .type "slice", data := .fields #[.none, .int i t', .none] }).push { cls := .type "list", data := .seq (vs.take i.toNat).toArray }) := (k2.trans (kp _ _)).trans (kp _ _)
      refine h _ _ _ (k1.trans kk) (.list (vs := vs.take i.toNat) ?_ ⟨0, ?_⟩ ((ra.take _).keep kk))
      · have := not_hot_new (((z.keep k1).keep k2).keep (kp h2 { cls := .type "slice", data := .fields #[.none, .int i t', .none] }))
        rwa [Heap.size_push] at this
      · have := Heap.get?_push_size (h2.push { cls := .type "slice", data := .fields #[.none, .int i t', .none] }) (o := ({ cls := .type "list", data := .seq (vs.take i.toNat).toArray } : Obj)) rfl
        rwa [Heap.size_push] at this

/-! None. -/
theorem CmpOK.isNone {p : PV} (h : ∀ h Z v, Rel h Z p v → v ≠ .none) : CmpOK c n .Is p .none false := by
  intro A s Z va vb g bs z ra rb Q E hq
  cases rb
  exact is_none_ne (h _ _ _ ra) (hq _ s.heap s.toks Keep.refl (.bool _))
theorem CmpOK.isNoneStr {x : Str} : CmpOK c n .Is (.str x) .none false := CmpOK.isNone fun h Z v r e => by cases r; cases e

/-! Two signs of a text, stored crosswise. -/
theorem CmpOK.ne_tstr {a b : Str} {t u : Tok} : CmpOK c n .NotEq (.tstr a t) (.tstr b u) (a != b) := by
  intro A s Z va vb g bs z ra rb Q E h
  cases ra; cases rb
  exact PyProof.Rows.ne_str (h _ s.heap s.toks Keep.refl (.bool _))

/-- `x[a.index(b)]`: a sign made anew -/
noncomputable def SignEV (c : Cx) (n : Nat) (env : Env) (ρ : PEnv) (e : Expr) (ch : Nat) : Prop :=
  ∀ (A : Around) (s : Shared) (Z : Addr → Prop) (Q : Value → Shared → Prop) (E : Value → Shared → Prop), Good n A → c.Base s.heap → FrameOk env s.heap Z ρ → ZOk Z s.heap →
    (∀ h' t, Keep s.heap h' → s.toks < t → Q (.str ⟨#[ch]⟩ t) { s with heap := h', toks := t + 1 }) → wpAny c.M A (PySem.eval e env) Q E s

theorem EV.toks {e : Expr} {p : PV} (he : EV c n env ρ e p) {A : Around} {s : Shared} {Z : Addr → Prop} {Q : Value → Shared → Prop} {E : Value → Shared → Prop} (g : Good n A) (b : c.Base s.heap) (F : FrameOk env s.heap Z ρ) (z : ZOk Z s.heap)
    (h : ∀ v h' tk, Keep s.heap h' → Rel h' Z p v → s.toks ≤ tk → Q v { s with heap := h', toks := tk }) : wpAny c.M A (PySem.eval e env) Q E s :=
  wpAny_mono (wpAny_toks (he A s Z g b F z (fun v s' => ∃ h' tk, s' = { s with heap := h', toks := tk } ∧ Keep s.heap h' ∧ Rel h' Z p v) (fun _ _ => False) fun v h' tk k r => ⟨h', tk, rfl, k, r⟩))
    (fun v s' q => by obtain ⟨m, h', tk, rfl, k, r⟩ := q; exact h v h' tk k r m) fun _ _ q => q.2.elim
theorem EVL.argsT {pos : Pos} {es : List Expr} {ps : List PV} (he : EVL c n env ρ es ps) (hs : (es.all fun e => !isStarred e) = true) {f : Value} {A : Around} {s : Shared} {Z : Addr → Prop} {Q : Args → Shared → Prop} {E : Value → Shared → Prop} (g : Good n A) (b : c.Base s.heap) (F : FrameOk env s.heap Z ρ) (z : ZOk Z s.heap)
    (h : ∀ vs h' tk, Keep s.heap h' → RelL h' Z ps vs → s.toks ≤ tk → Q ⟨vs, []⟩ { s with heap := h', toks := tk }) : wpAny c.M A (evalArgs f true (backTo pos (starEach es env)) []) Q E s :=
  wpAny_mono (wpAny_toks (he.args hs g b F z (Q := fun a s' => ∃ vs h' tk, a = ⟨vs, []⟩ ∧ s' = { s with heap := h', toks := tk } ∧ Keep s.heap h' ∧ RelL h' Z ps vs) (E := fun _ _ => False) fun vs h' tk k r => ⟨vs, h', tk, rfl, rfl, k, r⟩))
    (fun v s' q => by obtain ⟨m, vs, h', tk, rfl, rfl, k, r⟩ := q; exact h vs h' tk k r m) fun _ _ q => q.2.elim

theorem SignEV.mk {e o y : Expr} {spos apos pos : Pos} {pl : Sem Bool} {x w v : Str} {i : Nat} {rest : List Nat} {ch : Nat} (he : EV c n env ρ e (.str x)) (ho : EV c n env ρ o (.str w)) (hy : EV c n env ρ y (.str v)) (hoc : occurrences w v 0 w.length 1 = i :: rest)
    (hch : x.cps[i]? = some ch) (hi : i < 1000)
    (hs : ∀ t u, subscripted (.Call (.Attribute o "index" apos) [y] [] pos) false (.str x t) (.int (i : Int) u) = operate [.str x t, .int (i : Int) u] (getItem (.str x t) (.int (i : Int) u)) := by intro _ _; with_unfolding_all rfl)
    (hm : PySem.eval (.Call (.Attribute o "index" apos) [y] [] pos) env = (do
      let ov ← PySem.eval o env
      standAt apos.atName
      let (f, first) ← holding [ov] (getMethod ov "index" pl)
      callWith pos f first (backTo pos (starEach [y] env)) []) := by rfl) (hst : isStarred y = false := by rfl) :
    SignEV c n env ρ (.Subscript e (.Call (.Attribute o "index" apos) [y] [] pos) spos) ch := by
  intro A s Z Q E g b F z h
  have hs1 : ([y].all fun e => !isStarred e) = true := by simp [hst]
  have hvl : EVL c n env ρ [y] [.str v] := ⟨hy, trivial⟩
  refine Subscript_ (he.toks g b F z fun v1 h1 t1 k1 r1 m1 => ?_)
  refine MethodCall_ (pl := pl) (ho.toks (s := { s with heap := h1, toks := t1 }) g (b.keep k1) (F.keep k1) (z.keep k1) fun v2 h2 t2 k2 r2 m2 => ?_) hm
  cases r2 with
  | str _ tw =>
    refine GM.index ?_
    refine callWith_builtin (noStar hs1) (hvl.argsT (s := { s with heap := h2, toks := t2 }) hs1 g ((b.keep k1).keep k2) ((F.keep k1).keep k2) ((z.keep k1).keep k2) fun us h3 t3 k3 r3 m3 => ?_)
    obtain ⟨v3, rfl, rv⟩ := r3.is1
    cases rv with
    | str _ tv =>
      refine SC.index hoc ?_
      cases r1 with
      | str _ tx =>
        have hlt : i < x.cps.size := by
          rcases Nat.lt_or_ge i x.cps.size with q | q
          · exact q
          · rw [Array.getElem?_eq_none q] at hch; cases hch
        refine tail_any (typeIs_str _ x _) PySem.F.slot_str_getitem.lookup (P.getItem_str (c := ch) ?_ ?_ ?_) (hs _ _)
        · have a1 : decide ((i : Int) < -(2 ^ 63 : Int)) = false := decide_eq_false (by omega)
          have a2 : decide ((i : Int) ≥ 2 ^ 63) = false := decide_eq_false (by omega)
          rw [a1, a2]; rfl
        · have hj : seqIndex? (i : Int) x.length = some i := by
            unfold seqIndex?
            have h1 : ¬ (i : Int) < 0 := by omega
            have h2 : (i : Int) < x.length := by show (i : Int) < x.cps.size; omega
            simp [h1, h2]
          rw [hj]; exact hch
        · exact h h3 (t3 + 1) ((k1.trans k2).trans k3) (Nat.lt_succ_of_le (Nat.le_trans m1 (Nat.le_trans m2 m3)))
theorem unpack2 {A : Around} {s : Shared} {E : Value → Shared → Prop} {t : Addr} {a b : Value} {Q : List Value → Shared → Prop} {k : Nat} (hh : A.handled = none) (ht : s.heap.IsTuple t #[a, b]) (hk : k = 2)
    (hQ : ∀ h', Heap.ExtBut s.heap.objs.size s.heap h' → Q [a, b] { s with heap := h' }) : wpAny c.M A (unpackItems (.ref t) k none) Q E s := by
  subst hk
  exact wpAny_unpackItems_tuple (items := #[a, b]) hh ht hQ

theorem EX1.swap2 {x y : Str} {xp yp tp tp2 pos : Pos} {k k2 : Nat} {e1 e2 : Expr} {ca cb : Nat} {Φ : PF → PEnv → Prop} (h1 : SignEV c n env ρ e1 ca) (h2 : SignEV c n env ρ e2 cb) (hx : Stored env W x) (hy : Stored env W y)
    (h : ∀ t u, t ≠ 0 → u ≠ 0 → t ≠ u → Φ .next ((ρ.set y (.tstr ⟨#[cb]⟩ u)).set x (.tstr ⟨#[ca]⟩ t))) (hst1 : isStarred e1 = false := by rfl) (hst2 : isStarred e2 = false := by rfl)
    (hs : swapsWithSole [.Tuple [.Name x xp, .Name y yp] k tp] (.Tuple [e1, e2] k2 tp2) pos.line env = pure false := by rfl) (hw : swappedStores [.Tuple [.Name x xp, .Name y yp] k tp] (.Tuple [e1, e2] k2 tp2) env = pure (some [x, y]) := by rfl) :
    EX1 c n env W (.Assign [.Tuple [.Name x xp, .Name y yp] k tp] (.Tuple [e1, e2] k2 tp2) pos) ρ Φ := by
  intro A s Z Z₀ h₀ Q E g S hq
  have es : starEach [e1, e2] env = [(false, PySem.eval e1 env), (false, PySem.eval e2 env)] := by
    have q2 : starEach [e2] env = [(false, PySem.eval e2 env)] := by
      cases e2 <;> first | rfl | (exfalso; simp [isStarred] at hst2)
    have q1 : starEach [e1, e2] env = (false, PySem.eval e1 env) :: starEach [e2] env := by
      cases e1 <;> first | rfl | (exfalso; simp [isStarred] at hst1)
    rw [q1, q2]
  refine Assign_Tuple_swapped (Tuple_ ?_) hs hw
  rw [es]
  refine spliced_cons (h1 A s Z _ _ g S.baseNow S.fr S.z fun hp1 t1 k1 m1 => ?_)
  refine spliced_cons (h2 A { s with heap := hp1, toks := t1 + 1 } Z _ _ g (S.baseNow.keep k1) (S.fr.keep k1) (S.z.keep k1) fun hp2 t2 k2 m2 => ?_)
  refine spliced_nil ?_
  have S2 := (S.keeps k1).keeps k2
  refine wpAny_newTuple ?_ (by rw [sizeLine_eq]; exact Nat.le_of_ble_eq_true rfl)
  have kp : Keep hp2 (hp2.push { cls := .type "tuple", data := .seq ([Value.str ⟨#[ca]⟩ t1, Value.str ⟨#[cb]⟩ t2] : List Value).toArray }) := fun b o e => Heap.get?_push_of_some _ e
  have S3 := S2.keeps kp
  have ht : (hp2.push { cls := .type "tuple", data := .seq ([Value.str ⟨#[ca]⟩ t1, Value.str ⟨#[cb]⟩ t2] : List Value).toArray }).IsTuple hp2.objs.size ([Value.str ⟨#[ca]⟩ t1, Value.str ⟨#[cb]⟩ t2] : List Value).toArray := ⟨_, Heap.get?_push_size _ rfl, rfl, 0, rfl⟩
  refine unpack2 (a := Value.str ⟨#[ca]⟩ t1) (b := Value.str ⟨#[cb]⟩ t2) g.h ht rfl fun h4 he4 => ?_
  have k4 : Keep _ h4 := fun b o e => he4 b o (Nat.ne_of_lt (Heap.lt_size e)) e
  have S4 := S3.keeps k4
  show wpAny _ A (assignInOrder [bindName env y, bindName env x] [Value.str ⟨#[cb]⟩ t2, Value.str ⟨#[ca]⟩ t1]) _ _ _
  unfold assignInOrder
  refine wpAny_bind (wpAny_holding (wpAny_bindName ?_))
  refine St.store (s := { s with heap := h4, toks := t2 + 1 }) S4 hy (.tstr _ _) rfl fun h5 t5 S5 kb5 _ => ?_
  unfold assignInOrder
  refine wpAny_bind (wpAny_holding (wpAny_bindName ?_))
  refine St.store (s := { s with heap := h5, toks := t5 }) S5 hx (.tstr _ _) rfl fun h6 t6 S6 kb6 _ => ?_
  unfold assignInOrder
  have m2' : t1 + 1 < t2 := m2
  refine wpAny_pure (hq _ _ _ Z h6 t6 (h t1 t2 (Nat.ne_of_gt (Nat.lt_of_le_of_lt (Nat.zero_le _) m1)) (Nat.ne_of_gt (Nat.lt_of_le_of_lt (Nat.zero_le _) m2')) (Nat.ne_of_lt (Nat.lt_of_succ_lt m2'))) .next S6 ?_ fun _ z => .inl z)
  exact ((KeepBut.of (((k1.trans k2).trans kp).trans k4)).trans' kb5 fun _ z => .inl z).trans' kb6 fun _ z => .inl z
end Mine
end

/-! PlP -/
section
set_option maxRecDepth 100000
set_option maxHeartbeats 1000000
namespace Mine
open PySem PySem.W PyProof.Rows PySem.Calls PySem.Spec
variable {c : Cx} {n : Nat} {env : Env} {W : List Str} {ρ : PEnv} {h₀ h : Heap} {Z Z₀ : Addr → Prop}

/-! Comprehensions over pairs that an iterator makes of a tuple of its own (TO). -/
noncomputable abbrev SeqKept (h h' : Heap) : Prop := ∀ b o xs k, o.data = .seq xs k → h.get? b = some o → h'.get? b = some o

theorem St.storeS {A : Around} {s : Shared} (S : St c env W h₀ Z₀ s.heap Z ρ) {x : Str} {v : Value} {p : PV} (hx : Stored env W x) (r : Rel s.heap Z p v) (hp : p.isHot = false)
    {Q : Unit → Shared → Prop} {E : Value → Shared → Prop} (h : ∀ h' tk, St c env W h₀ Z₀ h' Z (ρ.set x p) → KeepBut Z s.heap h' → SeqKept s.heap h' → Q () { s with heap := h', toks := tk }) :
    wpAny c.M A (storeName env x v) Q E s := by
  rcases hx with hk | ⟨hk, hw⟩
  · obtain ⟨m, hn⟩ := S.wr.ns
    refine wpAny_storeName_local hk hn (fun h' hn' hs => ?_) (by rw [S.fr.ok.kind]; rfl)
    obtain ⟨S', kb⟩ := S.storeL hk hn hn' hs (.inl ⟨hp, r⟩)
    refine h h' _ S' kb fun b o xs k hd e => (hs.2 b ?_).trans e
    rintro rfl
    obtain ⟨es, ep, d⟩ := Ns.dict hn e
    rw [hd] at d; cases d
  · obtain ⟨a, v₀, e1, e2, e3, e4⟩ := S.wr.cell x hw hk
    refine wpAny_storeName_cell S.fr.ok.kind hk e1 e2 fun h' hn' hs => ?_
    obtain ⟨S', kb⟩ := S.storeC hk e1 e2 e3 e4 hn' hs r hp
    refine h h' _ S' kb fun b o xs k hd e => (hs.2 b ?_).trans e
    rintro rfl
    obtain ⟨o', e', d⟩ := e2
    rw [e] at e'; cases e'
    rw [hd] at d; cases d

theorem mem_other {wr : List Addr} {TO b : Addr} (hm : b ∈ wr) (h : b ≠ TO) : b ∈ wr.filter (· ≠ TO) := List.mem_filter.mpr ⟨hm, by simpa using h⟩
theorem of_mem_other {wr : List Addr} {TO b : Addr} (hm : b ∈ wr.filter (· ≠ TO)) : b ∈ wr ∧ b ≠ TO := ⟨(List.mem_filter.mp hm).1, by simpa using (List.mem_filter.mp hm).2⟩
structure OwnAt (h : Heap) (TO : Addr) : Prop where
  here : ∃ o xs k, h.get? TO = some o ∧ o.data = .seq xs k ∧ o.cls = .type "tuple"

theorem St.iterT (S : St c env W h₀ Z₀ h Z ρ) (nh : NoHot ρ) {h' : Heap} {wr : List Addr} {TO : Addr} (k : ∀ b o, b ∉ wr → h.get? b = some o → h'.get? b = some o) (hw : ∀ b ∈ wr, b ≠ TO → IterObj h b) (hw' : ∀ b ∈ wr, b ≠ TO → ¬ Z b)
    (hn : ∀ b ∈ wr, h₀.get? b = none) (ho : OwnAt h TO) (ho' : OwnAt h' TO) (hz : Z TO) : St c env W h₀ Z₀ h' Z ρ := by
  obtain ⟨o₀, xs₀, k₀, eo, do_, co⟩ := ho.here
  have offD : ∀ {a m}, h.Ns a m → a ∉ wr := fun {a m} x hm => by
    by_cases q : a = TO
    · subst q
      obtain ⟨es, ep, d'⟩ := Ns.dict x eo
      rw [do_] at d'; cases d'
    · obtain ⟨o, fs, e, hd⟩ := hw _ hm q
      obtain ⟨es, ep, d'⟩ := Ns.dict x e
      rw [hd] at d'; cases d'
  have offC : ∀ {a v}, h.IsCell a v → a ∉ wr := fun {a v} x hm => by
    obtain ⟨o, e, hd⟩ := x
    by_cases q : a = TO
    · subst q; rw [eo] at e; cases e; rw [do_] at hd; cases hd
    · obtain ⟨o', fs, e', hd'⟩ := hw _ hm q
      rw [e] at e'; cases e'; rw [hd] at hd'; cases hd'
  have hold : ∀ y u, Holds env h y u → Holds env h' y u := by
    rintro y u (⟨k1, m, n', e⟩ | ⟨k1, b, e1, e2⟩)
    · exact .inl ⟨k1, m, n'.at' fun o e => k _ _ (offD n') e, e⟩
    · have := offC e2
      obtain ⟨o, e, hd⟩ := e2
      exact .inr ⟨k1, b, e1, o, k _ _ this e, hd⟩
  have mv : ∀ {p v}, Rel h Z p v → Rel h' Z p v := fun r => r.move (wr := wr.filter (· ≠ TO)) (fun b o q1 q2 e => k b o (fun hm => q2 (mem_other hm fun x => q1 (by rw [x]; exact hz))) e)
    (fun b hb => hw b (of_mem_other hb).1 (of_mem_other hb).2) fun a z => .inl z
  refine ⟨S.base, fun b o e => k b o (fun q => by rw [hn b q] at e; cases e) (S.keep b o e), ⟨S.fr.ok, fun x p e q => ?_⟩, { S.wr with ns := ?_, cell := fun x hx hk => ?_ }, fun a q => ?_, S.z0, S.zn, fun x l e => absurd e (nh x l)⟩
  · obtain ⟨v, e1, e2⟩ := S.fr.vars x p e q
    exact ⟨v, hold x v e1, mv e2⟩
  · obtain ⟨m, hm⟩ := S.wr.ns
    exact ⟨m, hm.at' fun o e => k _ _ (offD hm) e⟩
  · obtain ⟨a, v, e1, e2, e3⟩ := S.wr.cell x hx hk
    have := offC e2
    obtain ⟨o, e, hd⟩ := e2
    exact ⟨a, v, e1, ⟨o, k _ _ this e, hd⟩, e3⟩
  · by_cases q2 : a = TO
    · subst q2; obtain ⟨o, _, _, e, _⟩ := ho'.here; exact ⟨o, e⟩
    · obtain ⟨o, e⟩ := S.z a q
      exact ⟨o, k a o (fun hm => hw' a hm q2 q) e⟩

theorem Acc.iterT {h' : Heap} {D TO : Addr} {done : List PV} {wr : List Addr} (a : Acc h₀ h Z D done) (k : ∀ b o, b ∉ wr → h.get? b = some o → h'.get? b = some o) (hw : ∀ b ∈ wr, b ≠ TO → IterObj h b) (ho : OwnAt h TO) (hz : Z TO) : Acc h₀ h' Z D done :=
  { a with here := (by
      obtain ⟨vs, ⟨m, e⟩, r⟩ := a.here
      refine ⟨vs, ⟨m, k _ _ (fun hm => ?_) e⟩, r.move (wr := wr.filter (· ≠ TO)) (fun b o q1 q2 e => k b o (fun hm => q2 (mem_other hm fun x => q1 (by rw [x]; exact hz))) e)
        (fun b hb => hw b (of_mem_other hb).1 (of_mem_other hb).2) fun a z => .inl z⟩
      by_cases q : D = TO
      · subst q
        obtain ⟨o', xs', k', e', _, hc'⟩ := ho.here
        rw [e] at e'; cases e'; simp at hc'
      · obtain ⟨o', fs, e', hd'⟩ := hw D hm q
        rw [e] at e'; cases e'; cases hd') }

theorem St.endT (S : St c env W h₀ Z₀ h Z ρ) (nh : NoHot ρ) {h' : Heap} {wr : List Addr} {TO : Addr} (k : ∀ b o, b ∉ wr → h.get? b = some o → h'.get? b = some o) (hw : ∀ b ∈ wr, b ≠ TO → IterObj h b) (hw' : ∀ b ∈ wr, b ≠ TO → ¬ Z b)
    (hn : ∀ b ∈ wr, h₀.get? b = none) (ho : OwnAt h TO) (hTn : h₀.get? TO = none) (hz : Z TO) : St c env W h₀ Z₀ h' (fun a => Z a ∧ a ≠ TO) ρ := by
  obtain ⟨o₀, xs₀, k₀, eo, do_, co⟩ := ho.here
  have neD : ∀ {a m}, h.Ns a m → a ≠ TO := fun {a m} x q => by
    subst q
    obtain ⟨es, ep, d'⟩ := Ns.dict x eo
    rw [do_] at d'; cases d'
  have neC : ∀ {a v}, h.IsCell a v → a ≠ TO := fun {a v} x q => by
    obtain ⟨o, e, hd⟩ := x
    subst q; rw [eo] at e; cases e; rw [do_] at hd; cases hd
  have offD : ∀ {a m}, h.Ns a m → a ∉ wr := fun {a m} x hm => by
    obtain ⟨o, fs, e, hd⟩ := hw _ hm (neD x)
    obtain ⟨es, ep, d'⟩ := Ns.dict x e
    rw [hd] at d'; cases d'
  have offC : ∀ {a v}, h.IsCell a v → a ∉ wr := fun {a v} x hm => by
    obtain ⟨o', fs, e', hd'⟩ := hw _ hm (neC x)
    obtain ⟨o, e, hd⟩ := x
    rw [e] at e'; cases e'; rw [hd] at hd'; cases hd'
  have hold : ∀ y u, Holds env h y u → Holds env h' y u := by
    rintro y u (⟨k1, m, n', e⟩ | ⟨k1, b, e1, e2⟩)
    · exact .inl ⟨k1, m, n'.at' fun o e => k _ _ (offD n') e, e⟩
    · have := offC e2
      obtain ⟨o, e, hd⟩ := e2
      exact .inr ⟨k1, b, e1, o, k _ _ this e, hd⟩
  have mv : ∀ {p v}, Rel h Z p v → Rel h' (fun a => Z a ∧ a ≠ TO) p v := fun r => (r.move (wr := wr.filter (· ≠ TO)) (fun b o q1 q2 e => k b o (fun hm => q2 (mem_other hm fun x => q1 (by rw [x]; exact hz))) e)
    (fun b hb => hw b (of_mem_other hb).1 (of_mem_other hb).2) fun a z => .inl z).zone fun a o e q => q.1
  refine ⟨S.base, fun b o e => k b o (fun q => by rw [hn b q] at e; cases e) (S.keep b o e), ⟨S.fr.ok, fun x p e q => ?_⟩, { S.wr with ns := ?_, hot := ⟨S.wr.hot, ?_⟩, cell := fun x hx hk => ?_ }, fun a q => ?_, fun a q => ⟨S.z0 a q, ?_⟩, S.zn, fun x l e => absurd e (nh x l)⟩
  · obtain ⟨v, e1, e2⟩ := S.fr.vars x p e q
    exact ⟨v, hold x v e1, mv e2⟩
  · obtain ⟨m, hm⟩ := S.wr.ns
    exact ⟨m, hm.at' fun o e => k _ _ (offD hm) e⟩
  · obtain ⟨m, hm⟩ := S.wr.ns
    exact neD hm
  · obtain ⟨a, v, e1, e2, e3, e4⟩ := S.wr.cell x hx hk
    have := offC e2
    have h2 := neC e2
    obtain ⟨o, e, hd⟩ := e2
    exact ⟨a, v, e1, ⟨o, k _ _ this e, hd⟩, e3, e4, h2⟩
  · obtain ⟨o, e⟩ := S.z a q.1
    exact ⟨o, k a o (fun hm => hw' a hm q.2 q.1) e⟩
  · rintro rfl
    obtain ⟨o, e⟩ := S.zn _ q
    rw [hTn] at e; cases e
theorem Acc.endT {h' : Heap} {D TO : Addr} {done : List PV} {wr : List Addr} (a : Acc h₀ h Z D done) (k : ∀ b o, b ∉ wr → h.get? b = some o → h'.get? b = some o) (hw : ∀ b ∈ wr, b ≠ TO → IterObj h b) (ho : OwnAt h TO) (hz : Z TO) : Acc h₀ h' (fun a => Z a ∧ a ≠ TO) D done := by
  have hD : D ≠ TO := fun q => by
    obtain ⟨vs, ⟨m, e⟩, r⟩ := a.here
    obtain ⟨o', xs', k', e', _, hc'⟩ := ho.here
    rw [← q, e] at e'; cases e'; simp at hc'
  obtain ⟨vs, hl, r⟩ := a.here
  obtain ⟨m, e⟩ := id hl
  refine ⟨⟨vs, ⟨m, k _ _ (fun hm => ?_) e⟩, (r.move (wr := wr.filter (· ≠ TO)) (fun b o q1 q2 e => k b o (fun hm => q2 (mem_other hm fun x => q1 (by rw [x]; exact hz))) e)
        (fun b hb => hw b (of_mem_other hb).1 (of_mem_other hb).2) fun a z => .inl z).zone fun a o e q => q.1⟩, ⟨a.hot, hD⟩, a.new⟩
  obtain ⟨o', fs, e', hd'⟩ := hw D hm hD
  rw [e] at e'; cases e'; cases hd'

/-- an iterator over pairs -/
structure IterT (c : Cx) (h : Heap) (Z : Addr → Prop) (ps : List (PV × PV)) (I TO : Addr) (fp wr : List Addr) (P : Nat → Array Value → Prop) (S : Nat → Heap → Prop) (Mid : Nat → Addr → Heap → Prop) : Prop where
  walks : ∀ A' : Around, A'.handled = none → WalksT c.prog c.w A' I fp wr ps.length P S Mid
  start : S 0 h
  there : ∀ b ∈ fp, ∃ o, h.get? b = some o
  cold : ∀ b ∈ fp, ¬ Z b
  obj : ∀ i h, S i h → ∀ b ∈ wr, b ≠ TO → IterObj h b
  own : ∀ i h, S i h → OwnAt h TO
  mine : TO ∈ wr
  item : ∀ i vals, P i vals → ∃ v u p q, vals = #[v, u] ∧ ps[i]? = some (p, q) ∧ Rel h (fun a => Z a ∨ a = TO) p v ∧ Rel h (fun a => Z a ∨ a = TO) q u
  self : ∀ i h, S i h → ∀ (A : Around) (s : Shared) (Q : Value → Shared → Prop) (E : Value → Shared → Prop), s.heap = h → Q (.ref I) s → wpAny c.M A (pyIter (.ref I)) Q E s

noncomputable def ITT (c : Cx) (n : Nat) (env : Env) (ρ : PEnv) (e : Expr) (ps : List (PV × PV)) : Prop :=
  ∀ (A : Around) (s : Shared) (Z : Addr → Prop) (Q : Value → Shared → Prop) (E : Value → Shared → Prop), Good n A → c.Base s.heap → FrameOk env s.heap Z ρ → ZOk Z s.heap →
    (∀ I TO fp wr P S Mid h' tk, IterT c h' Z ps I TO fp wr P S Mid → Keep s.heap h' → (∀ b ∈ wr, s.heap.get? b = none) → Q (.ref I) { s with heap := h', toks := tk }) →
    wpAny c.M A (eval e env) (fun x s₁ => wpAny c.M A (pyIter x) Q E s₁) E s

/-- what an unlocked state gives of a pair's iterator -/
theorem comp_loopT {e elt : Expr} {d : Nat} {ip : Pos} {x y : Str} {xp yp tp : Pos} {kk : Nat} {ifs : List Expr} {ρb : PEnv} {ps : List (PV × PV)} (bs : PV → PV → Bool) (f : PV → PV → PV) {I D TO : Addr} {fp wr : List Addr} {P : Nat → Array Value → Prop} {R : Nat → Heap → Prop} {Mid : Nat → Addr → Heap → Prop}
    (heq : ∀ it acc, compTurn e d it acc env = turnT e d ip (.Tuple [.Name x xp, .Name y yp] kk tp) ifs (emitT elt acc env) it acc env) (hq : ∀ it acc, (Code.compLoop e d it acc env).quiet = true := by intro _ _; rfl) (hfr : ∀ it acc, (Code.compLoop e d it acc env).isFrame = false := by intro _ _; rfl)
    (hund : ∀ it acc (A : Around), A.under (.compLoop e d it acc env) = A := by intro _ _ _; rfl)
    (hx : Stored env W x) (hy : Stored env W y) (hbx : ρb.lookup x = none) (hby : ρb.lookup y = none) (nh : NoHot ρb)
    (hifs : ∀ r ∈ ps, r.1.isHot = false → r.2.isHot = false → IFS c n env ((ρb.set x r.1).set y r.2) ifs (bs r.1 r.2)) (ht : ∀ r ∈ ps, r.1.isHot = false → r.2.isHot = false → bs r.1 r.2 = true → EV c n env ((ρb.set x r.1).set y r.2) elt (f r.1 r.2))
    {A : Around} {s : Shared} {Rr : Result → Shared → Prop} (g : Good n A) (S : St c env W h₀ Z₀ s.heap Z ρb) (a : Acc h₀ s.heap Z D []) {hI : Heap} {ZI : Addr → Prop} (it : IterT c hI ZI ps I TO fp wr P R Mid)
    (hZI : ∀ a o, hI.get? a = some o → Z a → ZI a ∨ a = TO) (hR0 : R 0 s.heap) (kI : ∀ b o, ¬ Z b → b ∉ wr → hI.get? b = some o → s.heap.get? b = some o) (hnew : ∀ b ∈ wr, h₀.get? b = none) (hzT : Z TO) (hsz : ps.length ≤ sizeLine)
    (hR : ∀ h' tk, St c env W h₀ Z₀ h' (fun a => Z a ∧ a ≠ TO) ρb → Acc h₀ h' (fun a => Z a ∧ a ≠ TO) D ((ps.filter fun r => bs r.1 r.2).map fun r => f r.1 r.2) → Rr (.ok .next) { s with heap := h', toks := tk }) :
    codeAny c.M A (.compLoop e d (.ref I) (.ref D) env) Rr s := by
  have W₁ := it.walks A g.h
  have hex : ∀ b ∈ fp, ∃ o, hI.get? b = some o := it.there
  have hcold : ∀ b ∈ fp, b ≠ TO → ¬ Z b := fun b hb hne q => by
    obtain ⟨o, e⟩ := hex b hb
    rcases hZI b o e q with q | q
    · exact it.cold b hb q
    · exact hne q
  have hwc : ∀ b ∈ wr, b ≠ TO → ¬ Z b := fun b hb => hcold b (W₁.sub b hb)
  have hTOn : h₀.get? TO = none := hnew TO it.mine
  refine codeAny_loop (hq _ _) (fun k s' => ∃ i h' tk, s' = { s with heap := h', toks := tk } ∧ i ≤ ps.length ∧ k = ps.length - i ∧ R i h' ∧ St c env W h₀ Z₀ h' Z ρb ∧
      Acc h₀ h' Z D (((ps.take i).filter fun r => bs r.1 r.2).map fun r => f r.1 r.2) ∧ (∀ b o, ¬ Z b → b ∉ wr → s.heap.get? b = some o → h'.get? b = some o)) ?_ ps.length ?_
  · rintro k s' ⟨i, h', tk, rfl, hi, rfl, hRi, S', a', kb⟩
    rw [hund]
    have e0 : (model c.prog c.w).den (.compLoop e d (.ref I) (.ref D) env) = (compTurn e d (.ref I) (.ref D) env).onRaise (fun x => do noteFrame x env; theTreesLotGoes x) := by
      show (if (Code.compLoop e d (.ref I) (.ref D) env).isFrame then _ else _) = _
      rw [hfr]; rfl
    show wpAny (model c.prog c.w) A ((model c.prog c.w).den (.compLoop e d (.ref I) (.ref D) env)) _ _ _
    rw [e0]
    refine wpAny_noted ?_
    rw [heq]
    unfold turnT
    refine wpAny_bind (wpAny_standAt ?_)
    by_cases hlt : i < ps.length
    · refine wpAny_bind (W₁.item i _ _ _ hlt hRi fun T vals h2 t2 hP hTn hT2 hM2 k2 => ?_)
      obtain ⟨v, u, p, q, rfl, hpq, rp, rq⟩ := it.item i vals hP
      show wpAny _ A (letOwnedTupleGo (.Tuple [.Name x xp, .Name y yp] kk tp) (.ref I) (.ref T) >>= _) _ _ _
      refine wpAny_bind (W₁.go _ _ _ i T _ _ _ hM2 fun h3 hR3 k3 => ?_)
      have hTw : T ∉ wr := W₁.apart i T h2 hM2
      have k23 : ∀ b o, b ∉ wr → h'.get? b = some o → h3.get? b = some o := fun b o q e => k3 b o q (k2 b o q e)
      have hT3 : h3.IsTuple T #[v, u] := by
        obtain ⟨o, e, r⟩ := hT2
        exact ⟨o, k3 T o hTw e, r⟩
      have own' := it.own _ _ hRi
      have own3 := it.own _ _ hR3
      have S3 := S'.iterT nh k23 (it.obj _ _ hRi) hwc hnew own' own3 hzT
      have a3 := a'.iterT k23 (it.obj _ _ hRi) own' hzT
      have kI3 : ∀ b o, ¬ Z b → b ∉ wr → hI.get? b = some o → h3.get? b = some o := fun b o q1 q2 e => k23 b o q2 (kb b o q1 q2 (kI b o q1 q2 e))
      have mv : ∀ {p v}, Rel hI (fun a => ZI a ∨ a = TO) p v → Rel h3 Z p v := fun r =>
        (r.zone (Z' := Z) fun a o e q => hZI a o e q).move (wr := wr.filter (· ≠ TO)) (fun b o q1 q2 e => kI3 b o q1 (fun hm => q2 (mem_other hm fun x => q1 (by rw [x]; exact hzT))) e)
          (fun b hb => it.obj _ _ it.start b (of_mem_other hb).1 (of_mem_other hb).2) fun a z => .inl z
      have rp3 : Rel h3 Z p v := mv rp
      have rq3 : Rel h3 Z q u := mv rq
      have hpm : (p, q) ∈ ps := List.mem_of_getElem? hpq
      refine wpAny_bind (wpAny_assign_Tuple (s := { s with heap := h3, toks := t2 }) g.h hT3 rfl rfl fun h4 he4 => ?_)
      have k4 : Keep h3 h4 := fun b o e => he4 b o (Nat.ne_of_lt (Heap.lt_size e)) e
      have S4 := S3.keeps k4
      show wpAny _ A (assignInOrder [PySem.assign (.Name x xp) env, PySem.assign (.Name y yp) env] [v, u]) _ _ _
      unfold assignInOrder
      refine wpAny_bind (wpAny_holding (wpAny_assign_Name ?_))
      refine St.storeS (s := { s with heap := h4, toks := t2 }) S4 hx (rp3.keep k4) rp.cold fun h5 t5 S5 kb5 sk5 => ?_
      unfold assignInOrder
      refine wpAny_bind (wpAny_holding (wpAny_assign_Name ?_))
      refine St.storeS (s := { s with heap := h5, toks := t5 }) S5 hy ((rq3.keep k4).but kb5) rq.cold fun h6 t6 S6 kb6 sk6 => ?_
      unfold assignInOrder
      refine wpAny_pure ?_
      have sk : SeqKept h3 h6 := fun b o xs k hd e => sk6 b o xs k hd (sk5 b o xs k hd (k4 _ _ e))
      have kb36 : ∀ b o, ¬ Z b → h3.get? b = some o → h6.get? b = some o := fun b o q e => kb6 b o q (kb5 b o q (k4 _ _ e))
      have a6 : Acc h₀ h6 Z D (((ps.take i).filter fun r => bs r.1 r.2).map fun r => f r.1 r.2) := by
        obtain ⟨vs, ⟨m, hl⟩, rl⟩ := a3.here
        exact { a3 with here := ⟨vs, ⟨m, sk _ _ _ _ rfl hl⟩, rl.but kb36⟩ }
      have hR6 : R (i + 1) h6 := W₁.frame _ _ _ hR3 fun b hb o e => by
        by_cases hq' : b = TO
        · subst hq'
          obtain ⟨o', xs', k', e', hd', _⟩ := own3.here
          rw [e] at e'; cases e'
          exact sk _ _ _ _ hd' e
        · exact kb36 b o (hcold b hb hq') e
      have kb06 : ∀ b o, ¬ Z b → b ∉ wr → s.heap.get? b = some o → h6.get? b = some o := fun b o q1 q2 e => kb36 b o q1 (k23 b o q2 (kb b o q1 q2 e))
      refine wpAny_bind (hifs (p, q) hpm rp.cold rq.cold A _ Z g S6.baseNow S6.fr S6.z _ _ fun h7 t7 k7 => ?_)
      have hR7 : R (i + 1) h7 := W₁.frame _ _ _ hR6 fun b hb o e => k7 _ _ e
      have sub : ∀ y' q', ρb.lookup y' = some q' → ((ρb.set x p).set y q).lookup y' = some q' := fun y' q' e => by
        by_cases h1 : y' = y
        · subst h1; rw [hby] at e; cases e
        · rw [PEnv.set_off h1]
          by_cases h2 : y' = x
          · subst h2; rw [hbx] at e; cases e
          · rw [PEnv.set_off h2]; exact e
      have etake : ((ps.take (i + 1)).filter fun r => bs r.1 r.2).map (fun r => f r.1 r.2) = ((ps.take i).filter fun r => bs r.1 r.2).map (fun r => f r.1 r.2) ++ (if bs p q then [f p q] else []) := by
        rw [List.take_add_one, hpq, List.filter_append, List.map_append]
        congr 1
        cases hb : bs p q <;> simp [hb]
      cases hbp : bs p q with
      | false =>
        rw [hbp] at etake
        simp only [Bool.false_eq_true, if_false, List.append_nil] at etake ⊢
        refine wpAny_pure ⟨rfl, ps.length - (i + 1), by omega, i + 1, h7, t7, rfl, by omega, rfl, hR7, (S6.keeps k7).weak sub, ?_, fun b o q1 q2 e => k7 _ _ (kb06 b o q1 q2 e)⟩
        rw [etake]; exact a6.keep k7
      | true =>
        rw [hbp] at etake
        simp only [if_true] at etake ⊢
        have S7 := S6.keeps k7
        unfold emitT
        refine wpAny_bind (wpAny_bind (ht (p, q) hpm rp.cold rq.cold hbp A { s with heap := h7, toks := t7 } Z g S7.baseNow S7.fr S7.z _ _ fun v8 h8 t8 k8 r8 => ?_))
        obtain ⟨vs, hl, rl⟩ := ((a6.keep k7).keep k8).here
        have hlen := rl.length
        have hz : vs.toArray.size ≤ sizeLine := by
          have h1 : (((ps.take i).filter fun r => bs r.1 r.2).map fun r => f r.1 r.2).length ≤ ps.length := by
            rw [List.length_map]
            refine Nat.le_trans (List.length_filter_le _ _) ?_
            rw [List.length_take]; exact Nat.min_le_right _ _
          simp only [List.size_toArray]
          omega
        refine wpAny_bind (wpAny_list_append_plain (hsz := hz) hl fun h9 hl9 hs9 => ?_)
        obtain ⟨S9, kb9⟩ := ((S7.keeps k8).weak sub).changed hl hl9 hs9 a6.hot a6.new nh
        have hR8 : R (i + 1) h8 := W₁.frame _ _ _ hR7 fun b hb o e => k8 _ _ e
        have own8 := it.own _ _ hR8
        have hDT : TO ≠ D := fun q => by
          obtain ⟨o', xs', k', e', hd', hc'⟩ := own8.here
          obtain ⟨m, hl⟩ := hl
          rw [q, hl] at e'; cases e'; simp at hc'
        have hR9 : R (i + 1) h9 := W₁.frame _ _ _ hR8 fun b hb o e => by
          by_cases hq' : b = TO
          · subst hq'; exact (hs9.2 _ hDT).trans e
          · exact kb9 b o (hcold b hb hq') e
        refine wpAny_pure ?_
        refine wpAny_pure ⟨rfl, ps.length - (i + 1), by omega, i + 1, h9, t8, rfl, by omega, rfl, hR9, S9, ?_, fun b o q1 q2 e => kb9 b o q1 (k8 _ _ (k7 _ _ (kb06 b o q1 q2 e)))⟩
        rw [etake]
        exact { a6 with here := ⟨vs ++ [v8], by simpa using hl9, (rl.append (.one r8)).but kb9⟩ }
    · have hin : i = ps.length := by omega
      subst hin
      refine wpAny_bind (W₁.done _ _ _ hRi fun h2 t2 k2 => ?_)
      rw [List.take_length] at a'
      have own' := it.own _ _ hRi
      exact wpAny_pure (hR h2 t2 (S'.endT nh k2 (it.obj _ _ hRi) hwc hnew own' hTOn hzT) (a'.endT k2 (it.obj _ _ hRi) own' hzT))
  · exact ⟨0, s.heap, s.toks, rfl, Nat.zero_le _, by simp, hR0, S, by simpa using a, fun _ _ _ _ e => e⟩
theorem EV.compZip {elt iter : Expr} {x y : Str} {xp yp tp : Pos} {kk : Nat} {ifs : List Expr} {scope : Scope} {pos : Pos} (cl : List (Str × Addr)) (ρb : PEnv) (W : List Str) {ps : List (PV × PV)} (bs : PV → PV → Bool) (f : PV → PV → PV)
    (hit : ITT c n env ρ iter ps) (CC : CompOk env scope cl ρ ρb W) (T : TgOk env scope ρb W x) (T2 : TgOk env scope ρb W y)
    (hifs : ∀ B, ∀ r ∈ ps, r.1.isHot = false → r.2.isHot = false → IFS c n (cEnv scope cl B env) ((ρb.set x r.1).set y r.2) ifs (bs r.1 r.2))
    (helt : ∀ B, ∀ r ∈ ps, r.1.isHot = false → r.2.isHot = false → bs r.1 r.2 = true → EV c n (cEnv scope cl B env) ((ρb.set x r.1).set y r.2) elt (f r.1 r.2))
    (hsz : ps.length ≤ sizeLine) (hs : ∀ v, foldedSetIterable iter env v = pure v := by intro _; rfl) :
    EV c n env ρ (.ListComp elt [⟨.Tuple [.Name x xp, .Name y yp] kk tp, iter, ifs, 0⟩] scope pos) (.list ((ps.filter fun r => bs r.1 r.2).map fun r => f r.1 r.2)) := by
  intro A s Z g b F z Q E hq
  rw [eval_ListComp]
  have hpost := comp_post_none (c := c) (Z := Z) (E := E) (A := A) (s := s) hq
  have C := CC.clos
  have hk := CC.kind
  have hW := CC.own
  refine wpAny_comprehension_free (cl := cl) rfl hs C.clos hk CC.names ?_
  refine hit A s Z _ _ g b F z fun I TO fp wr P R Mid hI tI it kI hwr => ?_
  refine wpAny_newObj_type ?_
  generalize hH2 : hI.push { cls := .type "list", dict := none, data := .seq ([] : List Value).toArray } = H2
  have hD : H2.objs.size = hI.objs.size + 1 := by rw [← hH2, Heap.size_push]
  have k2 : Keep hI H2 := fun b o e => hH2 ▸ Heap.get?_push_of_some _ e
  refine wpAny_newCompEnv (c := c) (s := { s with heap := H2, toks := tI }) fun h3 env' he hl hns k3 ok => ?_
  dsimp only at he hl hns k3 ok ⊢
  rw [he, hl]
  have old : Keep s.heap h3 := (kI.trans k2).trans k3
  have newK : ∀ {h h' : Heap} {a : Addr}, Keep h h' → h'.objs.size ≤ a → h.get? a = none := fun {h h' a} k q => by
    cases e : h.get? a with
    | none => rfl
    | some o => exact absurd (Heap.lt_size (k _ _ e)) (Nat.not_lt.mpr q)
  have hDn : s.heap.get? hI.objs.size = none := newK kI (Nat.le_refl _)
  have hBn : s.heap.get? H2.objs.size = none := newK (kI.trans k2) (Nat.le_refl _)
  have hOwn : ∀ y a, (y, a) ∈ cellsFrom (H2.objs.size + 1) scope.names [] → s.heap.get? a = none ∧ hI.get? a = none ∧ H2.objs.size < a := fun y a hm => by
    have := (ok.empty y a hm).2
    exact ⟨newK (kI.trans k2) (by omega), newK k2 (by omega), by omega⟩
  let Z' : Addr → Prop := fun a => Z a ∨ a = H2.objs.size ∨ a = hI.objs.size ∨ (∃ y, (y, a) ∈ cellsFrom (H2.objs.size + 1) scope.names []) ∨ a = TO
  have hTOn : s.heap.get? TO = none := hwr TO it.mine
  have zoneS : ∀ {p v}, Rel s.heap Z p v → Rel h3 Z' p v := fun r => (r.zone (Z' := Z') fun a o e q => by
    rcases q with q | rfl | rfl | ⟨y, q⟩ | rfl
    · exact q
    · rw [hBn] at e; cases e
    · rw [hDn] at e; cases e
    · rw [(hOwn y a q).1] at e; cases e
    · rw [hTOn] at e; cases e).keep old
  have clAt : ∀ y a, cl.lookup y = some a → env.cells.lookup y = some a ∧ ∃ o, s.heap.get? a = some o := fun y a e => by
    obtain ⟨q, hq⟩ := C.all y a (lookup_mem e)
    obtain ⟨h1, h2, h3', h4, ⟨a', h5, h6⟩, h7⟩ := C.known y q hq
    rw [e] at h5; cases h5
    refine ⟨h6, ?_⟩
    obtain ⟨v, hv, _⟩ := F.vars y q h2 h1
    rcases hv with ⟨hkk, _⟩ | ⟨_, a2, e2, i2⟩
    · rcases h3' with q | q <;> rw [q] at hkk <;> cases hkk
    · rw [h6] at e2; cases e2
      obtain ⟨o, e3, _⟩ := i2
      exact ⟨o, e3⟩
  have inj : ∀ x y a, (cellsFrom (H2.objs.size + 1) scope.names [] ++ cl).lookup x = some a → (cellsFrom (H2.objs.size + 1) scope.names [] ++ cl).lookup y = some a → x = y := fun x y a ex ey => by
    rw [append_lookup] at ex ey
    cases o1 : (cellsFrom (H2.objs.size + 1) scope.names []).lookup x with
    | some a1 =>
      rw [o1] at ex; cases ex
      cases o2 : (cellsFrom (H2.objs.size + 1) scope.names []).lookup y with
      | some a2 => rw [o2] at ey; cases ey; exact name_of_addr ok.apart (lookup_mem o1) (lookup_mem o2)
      | none =>
        rw [o2] at ey
        obtain ⟨_, o, e⟩ := clAt y a ey
        rw [(hOwn x a (lookup_mem o1)).1] at e; cases e
    | none =>
      rw [o1] at ex
      obtain ⟨e1, o, e⟩ := clAt x a ex
      cases o2 : (cellsFrom (H2.objs.size + 1) scope.names []).lookup y with
      | some a2 => rw [o2] at ey; cases ey; rw [(hOwn y a (lookup_mem o2)).1] at e; cases e
      | none =>
        rw [o2] at ey
        exact F.ok.inj x y a e1 (clAt y a ey).1
  have nh : NoHot ρb := fun x l e => by
    have := (C.known x _ (lookup_mem e)).1
    cases this
  have S : St c (cEnv scope cl H2.objs.size env) W s.heap Z h3 Z' ρb := by
    refine ⟨b, old, ⟨⟨hk, F.ok.globals, F.ok.builtins, inj⟩, fun y q e hq => ?_⟩, ⟨⟨_, hns⟩, hBn, .inr (.inl rfl), fun y hy hyk => ?_, inj⟩, fun a q => ?_, fun a q => .inl q, z, fun x l e => absurd e (nh x l)⟩
    · obtain ⟨h1, h2, h3', h4, ⟨a, h5, h6⟩, h7⟩ := C.known y q (lookup_mem e)
      obtain ⟨v, hv, r⟩ := F.vars y q h2 h1
      refine ⟨v, .inr ⟨h4, a, by rw [append_lookup, h7]; exact h5, ?_⟩, zoneS r⟩
      rcases hv with ⟨hkk, _⟩ | ⟨_, a2, e2, i2⟩
      · rcases h3' with q | q <;> rw [q] at hkk <;> cases hkk
      · rw [h6] at e2; cases e2
        exact i2.keeps old
    · obtain ⟨a, ha⟩ := Option.isSome_iff_exists.mp (hW (H2.objs.size + 1) y hy hyk)
      exact ⟨a, none, by rw [append_lookup, ha]; rfl, (ok.empty y a (lookup_mem ha)).1, (hOwn y a (lookup_mem ha)).1, .inr (.inr (.inr (.inl ⟨y, lookup_mem ha⟩)))⟩
    · rcases q with q | rfl | rfl | ⟨y, q⟩ | rfl
      · obtain ⟨o, e⟩ := z a q; exact ⟨o, old _ _ e⟩
      · obtain ⟨o, _, _, e, _⟩ := hns; exact ⟨o, e⟩
      · exact ⟨_, k3 _ _ (hH2 ▸ Heap.get?_push_size _ rfl)⟩
      · obtain ⟨o, e, _⟩ := (ok.empty y a q).1; exact ⟨o, e⟩
      · obtain ⟨o, e⟩ := it.there _ ((it.walks A g.h).sub _ it.mine); exact ⟨o, k3 _ _ (k2 _ _ e)⟩
  have acc : Acc s.heap h3 Z' hI.objs.size [] := ⟨⟨[], ⟨0, k3 _ _ (hH2 ▸ Heap.get?_push_size _ rfl)⟩, .nil⟩, .inr (.inr (.inl rfl)), hDn⟩
  have kI3 : Keep hI h3 := k2.trans k3
  have hR0 : R 0 h3 := (it.walks A g.h).frame _ _ _ it.start fun b _ o e => kI3 _ _ e
  have loop : ∀ s₃ : Shared, s₃ = { s with heap := h3, toks := tI } → codeAny c.M A (.compLoop (.ListComp elt (⟨.Tuple [.Name x xp, .Name y yp] kk tp, iter, ifs, 0⟩ :: []) scope pos) 0 (.ref I) (.ref hI.objs.size) (cEnv scope cl H2.objs.size env))
      (compPost c.M A E none Q (.ref hI.objs.size) H2.objs.size) s₃ := by
    rintro s₃ rfl
    refine comp_loopT (env := cEnv scope cl H2.objs.size env) (n := n) (W := W) (Z := Z') (Z₀ := Z) (h₀ := s.heap) (ZI := Z) bs f (fun it acc => turn_one ..) (fun _ _ => rfl) (fun _ _ => rfl) (fun _ _ _ => rfl) T.st T2.st T.free T2.free nh (hifs H2.objs.size) (helt H2.objs.size) g S acc it ?_ hR0 (fun b o _ _ e => kI3 _ _ e) hwr (.inr (.inr (.inr (.inr rfl)))) hsz fun h4 t4 S4 a4 => ?_
    · rintro a o e (q | rfl | rfl | ⟨y, q⟩ | rfl)
      · exact .inl q
      · rw [newK k2 (Nat.le_refl _)] at e; cases e
      · rw [fresh_none (Nat.le_refl _)] at e; cases e
      · rw [(hOwn y a q).2.1] at e; cases e
      · exact .inr rfl
    · obtain ⟨vs, hl4, rl4⟩ := a4.here
      refine hpost hI.objs.size H2.objs.size h4 t4 vs S4.keep hl4 (rl4.zone fun a o e q => ⟨.inl q, fun e => by obtain ⟨o, e'⟩ := z _ q; rw [e, hTOn] at e'; cases e'⟩) (fun q => by obtain ⟨o, e⟩ := z _ q; rw [hDn] at e; cases e) hDn hBn (by rw [hD]; exact Nat.ne_of_lt (Nat.lt_succ_self _)) S4.wr.ns
  exact compStart_any (fun _ _ => rfl) rfl rfl rfl (loop _ rfl) (it.self 0 _ hR0 _ _ _ _ rfl (loop _ rfl))
end Mine
end

/-! PlQ -/
section
set_option maxRecDepth 100000
set_option maxHeartbeats 1000000
namespace Mine
open PySem PySem.W PyProof.Rows PySem.Calls PySem.Spec
variable {c : Cx} {n : Nat} {env : Env} {W : List Str} {ρ : PEnv} {h₀ h : Heap} {Z Z₀ : Addr → Prop}

/-! zip of two, each a list or a text. -/
/-- v's iterator is made as the object ob -/
noncomputable def Iters (v : Value) (ob : Obj) (h : Heap) : Prop := ∀ (prog : Program) (w : World) (A : Around) (s : Shared) (Q : Value → Shared → Prop) (E : Value → Shared → Prop), Keep h s.heap → Q (.ref s.heap.objs.size) { s with heap := s.heap.push ob } → wpAny (model prog w) A (pyIter v) Q E s

structure Src (c : Cx) (h : Heap) (Z : Addr → Prop) (v : Value) (xs : List PV) (ob : Obj) (fp : List Addr) (P : Nat → Value → Prop) (S : Addr → Nat → Heap → Prop) : Prop where
  iters : Iters v ob h
  live : ob.isFreed = false
  draws : ∀ (A : Around) (it : Addr), A.handled = none → it ∉ fp → Draws c.prog c.w A it (it :: fp) xs.length P (S it)
  start : ∀ it h', Keep h h' → h'.get? it = some ob → S it 0 h'
  obj : ∀ it i h', S it i h' → ∃ o fs, h'.get? it = some o ∧ o.data = .fields fs
  there : ∀ b ∈ fp, ∃ o, h.get? b = some o
  cold : ∀ b ∈ fp, ¬ Z b
  item : ∀ i v, P i v → ∃ p, xs[i]? = some p ∧ Rel h Z p v

theorem Src.list {l : Addr} {xs : List PV} (r : Rel h Z (.list xs) (.ref l)) : ∃ ob fp P S, Src c h Z (.ref l) xs ob fp P S := by
  cases r with
  | list za la ra =>
    rename_i vs
    refine ⟨{ cls := .type "list_iterator", data := .fields #[.ref l, .int 0 0] }, [l], fun i v => vs.toArray[i]? = some v, fun it i h => h.IsListIter it l i ∧ h.IsList l vs.toArray, ?_, rfl, fun A it hA hit => ?_, ?_, ?_, ?_, ?_, ?_⟩
    · intro prog w A s Q E k hq
      exact wpAny_pyIter_list (la.isList.at fun o e => k _ _ e) hq
    · have el : xs.length = vs.toArray.size := by rw [List.size_toArray, ra.length]
      rw [el]
      exact Draws.list hA it l (fun e => hit (by simp [e])) vs.toArray
    · intro it h' k e
      exact ⟨⟨_, e, rfl, rfl⟩, la.isList.at fun o e => k _ _ e⟩
    · rintro it i h' ⟨⟨o, e, _, hd⟩, _⟩
      exact ⟨o, _, e, hd⟩
    · intro b hb
      rw [List.mem_singleton.mp hb]
      obtain ⟨m, e⟩ := la
      exact ⟨_, e⟩
    · intro b hb
      rw [List.mem_singleton.mp hb]; exact za
    · intro i v hv
      have : vs[i]? = some v := by simpa using hv
      obtain ⟨p, e1, e2⟩ := ra.getV this
      exact ⟨p, e1, e2⟩
theorem Src.ascii {x : Str} {t : Tok} (ha : x.cps.all (· < 128) = true) : ∃ ob fp P S, Src c h Z (.str x t) (signs x) ob fp P S := by
  refine ⟨{ cls := .type "str_ascii_iterator", data := .fields #[.str x t, .int 0 0] }, [], fun i v => ∃ c u, x.cps[i]? = some c ∧ v = .str ⟨#[c]⟩ u, fun it i h => h.IsStrIter it "str_ascii_iterator" x t i, ?_, rfl, fun A it hA hit => ?_, ?_, ?_, ?_, ?_, ?_⟩
  · intro prog w A s Q E k hq
    exact wpAny_pyIter_ascii ha hq
  · have el : (signs x).length = x.cps.size := by simp [signs]
    rw [el]
    exact Draws.strAscii hA it x t
  · intro it h' k e
    exact ⟨_, e, rfl, rfl⟩
  · rintro it i h' ⟨o, e, _, hd⟩
    exact ⟨o, _, e, hd⟩
  · intro b hb; simp at hb
  · intro b hb; simp at hb
  · rintro i v ⟨k, u, e1, rfl⟩
    exact ⟨.str ⟨#[k]⟩, by simp [signs, e1], .str _ _⟩

/-- the objects that zip(a, b) makes -/
noncomputable abbrev zObj (n : Nat) : Obj := { cls := .type "zip", data := .fields #[.none, .bool false, .bool false, .ref (n + 2), .ref (n + 3)] }
noncomputable abbrev zHeap (h : Heap) (o1 o2 : Obj) : Heap :=
  ((((h.push o1).push o2).push { cls := .type "tuple", data := .seq #[.ref h.objs.size, .ref (h.push o1).objs.size] }).push { cls := .type "tuple", data := .seq #[.none, .none] }).push
    { cls := .type "zip", data := .fields #[.none, .bool false, .bool false, .ref ((h.push o1).push o2).objs.size, .ref (((h.push o1).push o2).push { cls := .type "tuple", data := .seq #[.ref h.objs.size, .ref (h.push o1).objs.size] }).objs.size] }

theorem zip_made (v1 v2 : Value) (o1 o2 : Obj) :
    Meets (Builtin.«zip.__new__» ⟨[.type "zip", v1, v2], []⟩) (fun _ R s => Iters v1 o1 s.heap ∧ Iters v2 o2 s.heap ∧ R (.ok (.ret (.ref ((((s.heap.push o1).push o2).push { cls := .type "tuple", data := .seq #[.ref s.heap.objs.size, .ref (s.heap.push o1).objs.size] }).push { cls := .type "tuple", data := .seq #[.none, .none] }).objs.size)))
      { s with heap := zHeap s.heap o1 o2 }) :=
  .of_wp fun prog w A R s h => by
    obtain ⟨hp, g, d, tk, os⟩ := s
    obtain ⟨i1, i2, h⟩ := h
    have hsub := sub_zip
    have r1 : ∀ {Q : Value → Shared → Prop} {E : Value → Shared → Prop} {A : Around}, Q (.ref hp.objs.size) ⟨hp.push o1, g, d, tk, os⟩ → wpAny (model prog w) A (pyIter v1) Q E ⟨hp, g, d, tk, os⟩ := fun q => i1 prog w _ _ _ _ (fun _ _ e => e) q
    have r2 : ∀ {Q : Value → Shared → Prop} {E : Value → Shared → Prop} {A : Around}, Q (.ref (hp.push o1).objs.size) ⟨(hp.push o1).push o2, g, d, tk, os⟩ → wpAny (model prog w) A (pyIter v2) Q E ⟨hp.push o1, g, d, tk, os⟩ := fun q => i2 prog w _ _ _ _ (fun _ _ e => Heap.get?_push_of_some _ e) q
    wp_walk using r1, r2
    exact ⟨_, rfl, h⟩

theorem call_zip {v1 v2 : Value} {o1 o2 : Obj} {A : Around} {s : Shared} {Q : Value → Shared → Prop} {E : Value → Shared → Prop} (i1 : Iters v1 o1 s.heap) (i2 : Iters v2 o2 s.heap) (l1 : o1.isFreed = false) (l2 : o2.isFreed = false)
    (h : ∀ h', IsZip h' (s.heap.objs.size + 4) (s.heap.objs.size + 2) (s.heap.objs.size + 3) .none → IsPair h' (s.heap.objs.size + 2) (.ref s.heap.objs.size) (.ref (s.heap.objs.size + 1)) →
      IsPair h' (s.heap.objs.size + 3) .none .none → h'.get? s.heap.objs.size = some o1 → h'.get? (s.heap.objs.size + 1) = some o2 → Keep s.heap h' → Q (.ref (s.heap.objs.size + 4)) { s with heap := h' }) :
    wpAny c.M A (call (.type "zip") [v1, v2]) Q E s := by
  refine callType_new F.called_zip (by decide) (F.typeCall_zip_2 _ _) (F.newCall_zip_2 _ _) (fun obj => F.args_object_init_3 obj _ _) F.entry_zip_new
    (zip_made v1 v2 o1 o2) ⟨i1, i2, ?_⟩
  have z1 : (s.heap.push o1).objs.size = s.heap.objs.size + 1 := Heap.size_push ..
  have z2 : ((s.heap.push o1).push o2).objs.size = s.heap.objs.size + 2 := by rw [Heap.size_push, z1]
  have kp : ∀ (h : Heap) ob, Keep h (h.push ob) := fun h ob b o e => Heap.get?_push_of_some _ e
  unfold zHeap
  simp only [Heap.size_push, Nat.add_assoc, Nat.reduceAdd]
  generalize hT : (s.heap.push o1).push o2 = H2 at *
  have hz2 : H2.objs.size = s.heap.objs.size + 2 := z2
  generalize hTI : ({ cls := .type "tuple", data := .seq #[.ref s.heap.objs.size, .ref (s.heap.objs.size + 1)] } : Obj) = TI
  generalize hTO : ({ cls := .type "tuple", data := .seq #[.none, .none] } : Obj) = TO
  generalize hZ : ({ cls := .type "zip", data := .fields #[.none, .bool false, .bool false, .ref (s.heap.objs.size + 2), .ref (s.heap.objs.size + 3)] } : Obj) = ZO
  have fI : TI.isFreed = false := by rw [← hTI]; rfl
  have fO : TO.isFreed = false := by rw [← hTO]; rfl
  have fZ : ZO.isFreed = false := by rw [← hZ]; rfl
  have g1 : (((H2.push TI).push TO).push ZO).get? s.heap.objs.size = some o1 := by
    have := kp _ ZO _ _ (kp _ TO _ _ (kp _ TI _ _ (kp _ o2 _ _ (Heap.get?_push_size s.heap l1))))
    rwa [hT] at this
  have g2 : (((H2.push TI).push TO).push ZO).get? (s.heap.objs.size + 1) = some o2 := by
    have := kp _ ZO _ _ (kp _ TO _ _ (kp _ TI _ _ (Heap.get?_push_size (s.heap.push o1) l2)))
    rwa [hT, z1] at this
  have g3 : (((H2.push TI).push TO).push ZO).get? (s.heap.objs.size + 2) = some TI := by
    have := kp _ ZO _ _ (kp _ TO _ _ (Heap.get?_push_size H2 fI))
    rwa [hz2] at this
  have g4 : (((H2.push TI).push TO).push ZO).get? (s.heap.objs.size + 3) = some TO := by
    have := kp _ ZO _ _ (Heap.get?_push_size (H2.push TI) fO)
    rwa [Heap.size_push, hz2] at this
  have g5 : (((H2.push TI).push TO).push ZO).get? (s.heap.objs.size + 4) = some ZO := by
    have := Heap.get?_push_size ((H2.push TI).push TO) fZ
    rwa [Heap.size_push, Heap.size_push, hz2] at this
  have kk : Keep s.heap (((H2.push TI).push TO).push ZO) := fun b o e => kp _ _ _ _ (kp _ _ _ _ (kp _ _ _ _ (hT ▸ kp _ _ _ _ (kp _ _ _ _ e))))
  exact ⟨⟨_, g5, by rw [← hZ]⟩, h _ (by rw [← hZ] at g5 ⊢; exact g5) (by rw [← hTI] at g3 ⊢; exact g3) (by rw [← hTO] at g4 ⊢; exact g4) g1 g2 kk⟩
end Mine
end

/-! PlR -/
section
set_option maxRecDepth 100000
set_option maxHeartbeats 1000000
namespace Mine
open PySem PySem.W PyProof.Rows PySem.Calls PySem.Spec
variable {c : Cx} {n : Nat} {env : Env} {W : List Str} {ρ : PEnv} {h₀ h : Heap} {Z Z₀ : Addr → Prop}

/-- the places of a zip and of what it draws from -/
structure ZPlace (z TI TO i1 i2 : Addr) (f1 f2 : List Addr) : Prop where
  TIz : TI ≠ z
  TOz : TO ≠ z
  i1z : i1 ≠ z
  i2z : i2 ≠ z
  TITO : TI ≠ TO
  TIi1 : TI ≠ i1
  TIi2 : TI ≠ i2
  TOi1 : TO ≠ i1
  TOi2 : TO ≠ i2
  i12 : i1 ≠ i2
  f : ∀ b ∈ f1 ++ f2, b ≠ z ∧ b ≠ TO ∧ b ≠ i1 ∧ b ≠ i2

structure ZAt (h : Heap) (z TI TO i1 i2 : Addr) (f0 : Value) (S1 S2 : Heap → Prop) : Prop where
  zip : IsZip h z TI TO f0
  ti : IsPair h TI (.ref i1) (.ref i2)
  to : ∃ a b, IsPair h TO a b
  s1 : S1 h
  s2 : S2 h

section
variable {z TI TO i1 i2 : Addr} {f1 f2 : List Addr} {n1 n2 : Nat} {P1 P2 : Nat → Value → Prop} {S1 S2 : Nat → Heap → Prop} {A : Around} {s : Shared} {E : Value → Shared → Prop}

theorem zip_draw (D : ZPlace z TI TO i1 i2 f1 f2) (D1 : Draws c.prog c.w A i1 (i1 :: f1) n1 P1 S1) (D2 : Draws c.prog c.w A i2 (i2 :: f2) n2 P2 S2) {i : Nat} (h1 : i < n1) (h2 : i < n2) {Q : Value → Shared → Prop}
    (st : ZAt s.heap z TI TO i1 i2 .none (S1 i) (S2 i))
    (hQ : ∀ x y h' tk, P1 i x → P2 i y → ZAt h' z TI TO i1 i2 (rawInt s.heap.objs.size) (S1 (i + 1)) (S2 (i + 1)) → IsPair h' s.heap.objs.size x y →
      (∀ b o, b ≠ z → b ≠ TO → b ≠ i1 → b ≠ i2 → s.heap.get? b = some o → h'.get? b = some o) → Q (.ref s.heap.objs.size) { s with heap := h', toks := tk }) :
    wpAny c.M A (Builtin.«zip.__next__» ⟨[.ref z], []⟩) (fun fin s' => ∃ v, fin = .done (.ret v) ∧ Q v s') E s := by
  obtain ⟨hz, hTI, ⟨a, b, hTO⟩, g1, g2⟩ := st
  show wpAny _ _ (field (.ref z) 2 >>= _) _ _ _
  refine wpAny_bind (wpAny_field hz rfl (x := .bool false) rfl ?_)
  show wpAny _ _ (field (.ref z) 3 >>= _) _ _ _
  refine wpAny_bind (wpAny_field hz rfl (x := .ref TI) rfl ?_)
  refine wpAny_bind (wpAny_seqItems hTI rfl ?_)
  refine wpAny_bind (m := Builtin.SmallTypes.ownedTupleIsFree (.ref z)) ?_
  unfold Builtin.SmallTypes.ownedTupleIsFree
  refine wpAny_bind (wpAny_field hz rfl (x := .none) rfl (wpAny_pure ?_))
  simp only [if_true]
  refine wpAny_bind (wpAny_rule ?_)
  refine wpAny_bind (wpAny_field hz rfl (x := .ref TO) rfl ?_)
  refine wpAny_bind (wpAny_setField_rec hz (by simp) fun ha hza hsa => ?_)
  have hza : IsZip ha z TI TO .ellipsis := hza
  refine wpAny_bind ?_
  simp only [List.zipIdx_cons, List.zipIdx_nil, List.forIn_cons, List.forIn_nil]
  have ka : ∀ c o, c ≠ z → s.heap.get? c = some o → ha.get? c = some o := fun c o q e => hsa.extBut _ _ q e
  have ga1 : S1 i ha := D1.frame i _ _ g1 fun b hb o e => ka b o (by rcases List.mem_cons.mp hb with rfl | hb; exact D.i1z; exact (D.f b (List.mem_append_left _ hb)).1) e
  have ga2 : S2 i ha := D2.frame i _ _ g2 fun b hb o e => ka b o (by rcases List.mem_cons.mp hb with rfl | hb; exact D.i2z; exact (D.f b (List.mem_append_right _ hb)).1) e
  refine wpAny_bind (wpAny_bind (wpAny_onRaise ?_))
  show wpAny _ _ (Builtin.SmallTypes.nextOf (.ref i1) >>= _) _ _ _
  refine wpAny_bind (D1.item i _ _ _ h1 ga1 fun x hb tb px gb1 hsb => wpAny_pure ?_)
  have kb : ∀ c o, c ≠ i1 → ha.get? c = some o → hb.get? c = some o := fun c o q e => hsb.extBut _ _ q e
  have hTOb : IsPair hb TO a b := kb _ _ D.TOi1 (ka _ _ D.TOz hTO)
  have gb2 : S2 i hb := D2.frame i _ _ ga2 fun b hb o e => kb b o (by rcases List.mem_cons.mp hb with rfl | hb; exact D.i12.symm; exact (D.f b (List.mem_append_right _ hb)).2.2.1) e
  refine wpAny_bind (wpAny_seqItems hTOb rfl ?_)
  refine wpAny_bind (wpAny_updateSeq_pair hTOb fun hc hTOc hsc => ?_)
  have hTOc : IsPair hc TO x b := hTOc
  have kc : ∀ c o, c ≠ TO → hb.get? c = some o → hc.get? c = some o := fun c o q e => hsc.extBut _ _ q e
  refine wpAny_bind (wpAny_letGo (wpAny_pure ?_))
  refine wpAny_bind (wpAny_bind (wpAny_onRaise ?_))
  show wpAny _ _ (Builtin.SmallTypes.nextOf (.ref i2) >>= _) _ _ _
  have gc2 : S2 i hc := D2.frame i _ _ gb2 fun b hb o e => kc b o (by rcases List.mem_cons.mp hb with rfl | hb; exact D.TOi2.symm; exact (D.f b (List.mem_append_right _ hb)).2.1) e
  have gc1 : S1 (i + 1) hc := D1.frame _ _ _ gb1 fun b hb o e => kc b o (by rcases List.mem_cons.mp hb with rfl | hb; exact D.TOi1.symm; exact (D.f b (List.mem_append_left _ hb)).2.1) e
  refine wpAny_bind (D2.item i _ _ _ h2 gc2 fun y hd td py gd2 hsd => wpAny_pure ?_)
  have kd : ∀ c o, c ≠ i2 → hc.get? c = some o → hd.get? c = some o := fun c o q e => hsd.extBut _ _ q e
  have hTOd : IsPair hd TO x b := kd _ _ D.TOi2 hTOc
  have gd1 : S1 (i + 1) hd := D1.frame _ _ _ gc1 fun b hb o e => kd b o (by rcases List.mem_cons.mp hb with rfl | hb; exact D.i12; exact (D.f b (List.mem_append_left _ hb)).2.2.2) e
  refine wpAny_bind (wpAny_seqItems hTOd rfl ?_)
  refine wpAny_bind (wpAny_updateSeq_pair hTOd fun he hTOe hse => ?_)
  have hTOe : IsPair he TO x y := hTOe
  have ke : ∀ c o, c ≠ TO → hd.get? c = some o → he.get? c = some o := fun c o q e => hse.extBut _ _ q e
  refine wpAny_bind (wpAny_letGo (wpAny_pure (wpAny_pure ?_)))
  refine wpAny_bind (wpAny_seqItems hTOe rfl ?_)
  refine wpAny_bind (wpAny_newTuple ?_)
  have hsz : he.objs.size = s.heap.objs.size := hse.1.trans (hsd.1.trans (hsc.1.trans (hsb.1.trans hsa.1)))
  have ge1 : S1 (i + 1) he := D1.frame _ _ _ gd1 fun b hb o e => ke b o (by rcases List.mem_cons.mp hb with rfl | hb; exact D.TOi1.symm; exact (D.f b (List.mem_append_left _ hb)).2.1) e
  have ge2 : S2 (i + 1) he := D2.frame _ _ _ gd2 fun b hb o e => ke b o (by rcases List.mem_cons.mp hb with rfl | hb; exact D.TOi2.symm; exact (D.f b (List.mem_append_right _ hb)).2.1) e
  have hze : IsZip he z TI TO .ellipsis := ke _ _ D.TOz.symm (kd _ _ D.i2z.symm (kc _ _ D.TOz.symm (kb _ _ D.i1z.symm hza)))
  have k5 : ∀ c o, c ≠ z → c ≠ TO → c ≠ i1 → c ≠ i2 → s.heap.get? c = some o → he.get? c = some o := fun c o c1 c2 c3 c4 e => ke _ _ c2 (kd _ _ c4 (kc _ _ c2 (kb _ _ c3 (ka _ _ c1 e))))
  have hzlt : z < he.objs.size := Heap.lt_size hze
  refine wpAny_bind (m := Builtin.SmallTypes.ownedTupleHandOut (.ref z) (.ref he.objs.size)) ?_
  unfold Builtin.SmallTypes.ownedTupleHandOut
  have hzf : IsZip (he.push { cls := .type "tuple", data := .seq #[x, y] }) z TI TO .ellipsis := Heap.get?_push_of_some _ hze
  refine wpAny_bind (wpAny_setField_rec hzf (by simp) fun hg hzg hsg => ?_)
  have hzg : IsZip hg z TI TO (rawInt he.objs.size) := hzg
  refine wpAny_setField_rec hzg (by simp) fun hh hzh hsh => ?_
  have hzh : IsZip hh z TI TO (rawInt he.objs.size) := hzh
  have up : ∀ c o, c ≠ z → he.get? c = some o → hh.get? c = some o := fun c o c1 e => hsh.extBut _ _ c1 (hsg.extBut _ _ c1 (Heap.get?_push_of_some _ e))
  have hT : IsPair hh he.objs.size x y := hsh.extBut _ _ (Nat.ne_of_gt hzlt) (hsg.extBut _ _ (Nat.ne_of_gt hzlt) (Heap.get?_push_size _ rfl))
  rw [hsz] at hzh hT
  refine wpAny_pure ⟨_, rfl, ?_⟩
  show Q (.ref he.objs.size) _
  rw [hsz]
  exact hQ x y hh td px py ⟨hzh, up _ _ D.TIz (k5 _ _ D.TIz D.TITO D.TIi1 D.TIi2 hTI), ⟨x, y, up _ _ D.TOz hTOe⟩,
    D1.frame _ _ _ ge1 fun b hb o e => up b o (by rcases List.mem_cons.mp hb with rfl | hb; exact D.i1z; exact (D.f b (List.mem_append_left _ hb)).1) e,
    D2.frame _ _ _ ge2 fun b hb o e => up b o (by rcases List.mem_cons.mp hb with rfl | hb; exact D.i2z; exact (D.f b (List.mem_append_right _ hb)).1) e⟩ hT fun c o c1 c2 c3 c4 e => up c o c1 (k5 c o c1 c2 c3 c4 e)

theorem zip_over (D : ZPlace z TI TO i1 i2 f1 f2) (D1 : Draws c.prog c.w A i1 (i1 :: f1) n1 P1 S1) {Q : PySem.Fin → Shared → Prop} {St2 : Heap → Prop}
    (st : ZAt s.heap z TI TO i1 i2 .none (S1 n1) St2)
    (hE : ∀ h' e, (∀ b o, b ≠ z → b ≠ TO → b ≠ i1 → b ≠ i2 → s.heap.get? b = some o → h'.get? b = some o) → (∃ o, h'.get? e = some o ∧ o.cls = .type "StopIteration") → E (.ref e) { s with heap := h' }) :
    wpAny c.M A (Builtin.«zip.__next__» ⟨[.ref z], []⟩) Q E s := by
  obtain ⟨hz, hTI, ⟨a, b, hTO⟩, g1, g2⟩ := st
  show wpAny _ _ (field (.ref z) 2 >>= _) _ _ _
  refine wpAny_bind (wpAny_field hz rfl (x := .bool false) rfl ?_)
  show wpAny _ _ (field (.ref z) 3 >>= _) _ _ _
  refine wpAny_bind (wpAny_field hz rfl (x := .ref TI) rfl ?_)
  refine wpAny_bind (wpAny_seqItems hTI rfl ?_)
  refine wpAny_bind (m := Builtin.SmallTypes.ownedTupleIsFree (.ref z)) ?_
  unfold Builtin.SmallTypes.ownedTupleIsFree
  refine wpAny_bind (wpAny_field hz rfl (x := .none) rfl (wpAny_pure ?_))
  simp only [if_true]
  refine wpAny_bind (wpAny_rule ?_)
  refine wpAny_bind (wpAny_field hz rfl (x := .ref TO) rfl ?_)
  refine wpAny_bind (wpAny_setField_rec hz (by simp) fun ha hza hsa => ?_)
  have hza : IsZip ha z TI TO .ellipsis := hza
  refine wpAny_bind ?_
  simp only [List.zipIdx_cons, List.zipIdx_nil, List.forIn_cons, List.forIn_nil]
  have ka : ∀ c o, c ≠ z → s.heap.get? c = some o → ha.get? c = some o := fun c o q e => hsa.extBut _ _ q e
  have ga1 : S1 n1 ha := D1.frame n1 _ _ g1 fun b hb o e => ka b o (by rcases List.mem_cons.mp hb with rfl | hb; exact D.i1z; exact (D.f b (List.mem_append_left _ hb)).1) e
  refine wpAny_bind (wpAny_bind (wpAny_onRaise ?_))
  show wpAny _ _ (Builtin.SmallTypes.nextOf (.ref i1) >>= _) _ _ _
  refine wpAny_bind (D1.done _ _ _ ga1 fun hb e hsb he => ?_)
  obtain ⟨oe, hoe, hce⟩ := he
  have hzb : IsZip hb z TI TO .ellipsis := hsb _ _ D.i1z.symm hza
  have hez : e ≠ z := fun x => by subst x; rw [hzb] at hoe; cases hoe; simp at hce
  exact wpAny_setField_rec hzb (by simp) fun hc _ hsc => hE hc e (fun c o c1 _ c3 _ x => hsc.extBut _ _ c1 (hsb _ _ c3 (ka _ _ c1 x))) ⟨oe, hsc.extBut _ _ hez hoe, hce⟩
end
end Mine
end

/-! PlS -/
section
set_option maxRecDepth 100000
set_option maxHeartbeats 1000000
namespace Mine
open PySem PySem.W PyProof.Rows PySem.Calls PySem.Spec
variable {c : Cx} {n : Nat} {env : Env} {W : List Str} {ρ : PEnv} {h₀ h : Heap} {Z Z₀ : Addr → Prop}

section
variable {z TI TO i1 i2 : Addr} {f1 f2 : List Addr} {n1 n2 : Nat} {P1 P2 : Nat → Value → Prop} {S1 S2 : Nat → Heap → Prop}

theorem ZAt.lt {h : Heap} {f0 : Value} {T1 T2 : Heap → Prop} (D : ZAt h z TI TO i1 i2 f0 T1 T2) (l1 : ∃ o, h.get? i1 = some o) (l2 : ∃ o, h.get? i2 = some o) : h.objs.size ≠ z ∧ h.objs.size ≠ TO ∧ h.objs.size ≠ i1 ∧ h.objs.size ≠ i2 := by
  have lt : ∀ {c o}, h.get? c = some o → h.objs.size ≠ c := fun e => Nat.ne_of_gt (Heap.lt_size e)
  obtain ⟨a, b, hb⟩ := D.to
  obtain ⟨_, e1⟩ := l1
  obtain ⟨_, e2⟩ := l2
  exact ⟨lt D.zip, lt hb, lt e1, lt e2⟩

theorem zip_walks (D : ZPlace z TI TO i1 i2 f1 f2) (D1 : ∀ A : Around, A.handled = none → Draws c.prog c.w A i1 (i1 :: f1) n1 P1 S1) (D2 : ∀ A : Around, A.handled = none → Draws c.prog c.w A i2 (i2 :: f2) n2 P2 S2) (hle : n1 ≤ n2) {A : Around} (hA : A.handled = none) :
    WalksT c.prog c.w A z ([z, TI, TO, i1, i2] ++ (f1 ++ f2)) [z, TO, i1, i2] n1 (fun i vals => ∃ x y, P1 i x ∧ P2 i y ∧ vals = #[x, y]) (fun i h => ZAt h z TI TO i1 i2 .none (S1 i) (S2 i))
      (fun i T h => ZAt h z TI TO i1 i2 (rawInt T) (S1 (i + 1)) (S2 (i + 1)) ∧ T ≠ z ∧ T ≠ TO ∧ T ≠ i1 ∧ T ≠ i2) where
  sub := fun b hb => by
    refine List.mem_append_left _ ?_
    simp at hb ⊢
    rcases hb with rfl | rfl | rfl | rfl <;> simp
  frame := fun i h h' st k => by
    obtain ⟨hz, hTI, ⟨a, b, hTO⟩, g1, g2⟩ := st
    refine ⟨k z (by simp) _ hz, k TI (by simp) _ hTI, ⟨a, b, k TO (by simp) _ hTO⟩, (D1 A hA).frame i _ _ g1 fun b hb o e => k b ?_ o e, (D2 A hA).frame i _ _ g2 fun b hb o e => k b ?_ o e⟩
    · rcases List.mem_cons.mp hb with rfl | hb
      · simp
      · simp [hb]
    · rcases List.mem_cons.mp hb with rfl | hb
      · simp
      · simp [hb]
  item := fun i s Q E hi st hQ => by
    have hT : s.TypeIs (.ref z) "zip" := ⟨_, st.zip, rfl⟩
    have ne := st.lt ((D1 A hA).live _ _ st.s1) ((D2 A hA).live _ _ st.s2)
    unfold pyNext
    refine wpAny_bind (wpAny_attempt (wpAny_callSpecial?_slot (name := Str.ofString "__next__") hT F.slot_zip_next
      (wpAny_call_entry F.slot_zip_next hT F.entry_zip_next (zip_draw (A := A.in1) D (D1 _ hA) (D2 _ hA) hi (Nat.lt_of_lt_of_le hi hle) st fun x y h' tk px py st' hp k => ?_) (F.args_zip_next_1 _))))
    exact wpAny_pure (hQ s.heap.objs.size #[x, y] h' tk ⟨x, y, px, py, rfl⟩ (Nat.le_refl _) ⟨_, hp, rfl, _, rfl⟩ ⟨st', ne⟩
      fun b o hb e => k b o (fun q => hb (by simp [q])) (fun q => hb (by simp [q])) (fun q => hb (by simp [q])) (fun q => hb (by simp [q])) e)
  go := fun elts k pos i T s Q E hm hQ => by
    obtain ⟨⟨hz, hTI, ⟨a, b, hTO⟩, g1, g2⟩, _⟩ := hm
    refine wpAny_letOwnedTupleGo_zip hz fun h' hz' hs' => hQ h' ⟨hz', hs'.extBut _ _ D.TIz hTI, ⟨a, b, hs'.extBut _ _ D.TOz hTO⟩, (D1 A hA).frame _ _ _ g1 fun b hb o e => hs'.extBut _ _ ?_ e, (D2 A hA).frame _ _ _ g2 fun b hb o e => hs'.extBut _ _ ?_ e⟩ fun c o hc e => hs'.extBut _ _ (fun x => hc (by simp [x])) e
    · rcases List.mem_cons.mp hb with rfl | hb
      · exact D.i1z
      · exact (D.f b (List.mem_append_left _ hb)).1
    · rcases List.mem_cons.mp hb with rfl | hb
      · exact D.i2z
      · exact (D.f b (List.mem_append_right _ hb)).1
  apart := fun i T h hm hT => by
    obtain ⟨_, t1, t2, t3, t4⟩ := hm
    simp at hT
    rcases hT with rfl | rfl | rfl | rfl
    · exact t1 rfl
    · exact t2 rfl
    · exact t3 rfl
    · exact t4 rfl
  done := fun s Q E st hQ => by
    have hT : s.TypeIs (.ref z) "zip" := ⟨_, st.zip, rfl⟩
    unfold pyNext
    refine wpAny_bind (wpAny_attempt (wpAny_callSpecial?_slot (name := Str.ofString "__next__") hT F.slot_zip_next
      (wpAny_call_entry F.slot_zip_next hT F.entry_zip_next (zip_over (A := A.in1) D (D1 _ hA) st fun h' e k he => ?_) (F.args_zip_next_1 _))))
    obtain ⟨o, ho, hc⟩ := he
    refine wpAny_bind (wpAny_isInstance (T := "StopIteration") (b := true) ⟨o, ho, hc⟩ isSubtype_stop ?_)
    exact wpAny_pure (hQ h' s.toks fun b o hb e => k b o (fun q => hb (by simp [q])) (fun q => hb (by simp [q])) (fun q => hb (by simp [q])) (fun q => hb (by simp [q])) e)
  self := fun i s Q E st hQ => wpAny_pyIter_zip st.zip hQ
end

theorem ITT.zip {f : Str} {e1 e2 : Expr} {fp pos : Pos} {p1 p2 : PV} {xs ys : List PV} (he1 : EV c n env ρ e1 p1) (he2 : EV c n env ρ e2 p2)
    (src1 : ∀ h Z v, Rel h Z p1 v → ∃ ob fp P S, Src c h Z v xs ob fp P S) (src2 : ∀ h Z v, Rel h Z p2 v → ∃ ob fp P S, Src c h Z v ys ob fp P S) (hle : xs.length ≤ ys.length)
    (hx : env.kindOf f = some .globalImplicit) (hg : c.mg f = none) (hb : bootBuiltins f = some (.type "zip")) (hn : f ≠ "__name__" := by decide)
    (hd : (f == ("__debug__" : Str)) = false := by decide) (hs : ([e1, e2].all fun e => !isStarred e) = true := by rfl) : ITT c n env ρ (.Call (.Name f fp) [e1, e2] [] pos) (xs.zip ys) := by
  intro A s Z Q E g b F z h
  show wpAny _ _ (eval (.Name f fp) env >>= fun v => callWith pos v [] (backTo pos (starEach [e1, e2] env)) []) _ _ _
  refine wpAny_bind (wp_nameB (c := c) hx hg hb hn hd b F.ok ?_)
  have hvl : EVL c n env ρ [e1, e2] [p1, p2] := ⟨he1, he2, trivial⟩
  refine PySem.callWith_type (noStar hs) (hvl.args hs g b F z fun vs h1 t1 k1 r1 => ?_)
  obtain ⟨v1, v2, rfl, r1, r2⟩ := r1.is2
  obtain ⟨o1, f1, P1, S1, s1⟩ := src1 h1 Z v1 r1
  obtain ⟨o2, f2, P2, S2, s2⟩ := src2 h1 Z v2 r2
  refine call_zip (s := { s with heap := h1, toks := t1 }) s1.iters s2.iters s1.live s2.live fun h2 hz hTI hTO g1 g2 k2 => ?_
  have k2 : Keep h1 h2 := k2
  generalize hN : h1.objs.size = N at *
  have hN' : ({ s with heap := h1, toks := t1 } : Shared).heap.objs.size = N := hN
  simp only [hN'] at hz hTI hTO g1 g2 ⊢
  have hz0 : IsZip h2 (N + 4) (N + 2) (N + 3) .none := hz
  have old : ∀ b ∈ f1 ++ f2, b < N := fun b hb => by
    rcases List.mem_append.mp hb with hb | hb
    · obtain ⟨o, e⟩ := s1.there b hb; rw [← hN]; exact Heap.lt_size e
    · obtain ⟨o, e⟩ := s2.there b hb; rw [← hN]; exact Heap.lt_size e
  have ne : ∀ b, b < N → ∀ k, b ≠ N + k := fun b hb k q => Nat.lt_irrefl _ (Nat.lt_of_lt_of_le (q ▸ hb) (Nat.le_add_right N k))
  have D : ZPlace (N + 4) (N + 2) (N + 3) N (N + 1) f1 f2 := by
    refine ⟨?_, ?_, ?_, ?_, ?_, ?_, ?_, ?_, ?_, ?_, fun b hb => ⟨ne b (old b hb) 4, ne b (old b hb) 3, ne b (old b hb) 0, ne b (old b hb) 1⟩⟩ <;> (intro q; have q : (_ : Nat) = _ := q; omega)
  have fresh : ∀ k, s.heap.get? (N + k) = none := fun k => by
    cases q : s.heap.get? (N + k) with
    | none => rfl
    | some o => exact absurd (Heap.lt_size (k1 _ _ q)) (by rw [hN]; exact Nat.not_lt.mpr (Nat.le_add_right N k))
  have fresh1 : ∀ k, h1.get? (N + k) = none := fun k => fresh_none (by rw [hN]; exact Nat.le_add_right N k)
  have len : (xs.zip ys).length = xs.length := by rw [List.length_zip]; exact Nat.min_eq_left hle
  have hi1 : N ∉ f1 := fun hm => ne N (old N (List.mem_append_left _ hm)) 0 rfl
  have hi2 : N + 1 ∉ f2 := fun hm => ne (N + 1) (old _ (List.mem_append_right _ hm)) 1 rfl
  have WK := fun (A' : Around) (hA : A'.handled = none) => zip_walks D (fun A q => s1.draws A N q hi1) (fun A q => s2.draws A (N + 1) q hi2) hle hA
  have zc : ∀ k, ¬ Z (N + k) := fun k q => by
    obtain ⟨o, e⟩ := (z.keep k1) _ q
    rw [fresh1 k] at e; cases e
  have rr : ∀ {p v}, Rel h1 Z p v → Rel h2 (fun a => Z a ∨ a = N + 3) p v := fun r => (r.zone (Z' := fun a => Z a ∨ a = N + 3) fun a o e q => by
    rcases q with q | rfl
    · exact q
    · rw [fresh1 3] at e; cases e).keep k2
  refine wpAny_pyIter_zip hz0 (h (N + 4) (N + 3) _ _ _ _ _ h2 t1 ⟨fun A' hA => len ▸ WK A' hA, ⟨hz0, hTI, ⟨_, _, hTO⟩, s1.start _ _ k2 g1, s2.start _ _ k2 g2⟩, fun b hb => ?_, fun b hb => ?_, fun i hh st b hb hne => ?_, fun i hh st => ?_, by simp, ?_, ?_⟩ (k1.trans k2) fun b hb => ?_)
  · rcases List.mem_append.mp hb with hb | hb
    · simp at hb
      rcases hb with rfl | rfl | rfl | rfl | rfl
      · exact ⟨_, hz0⟩
      · exact ⟨_, hTI⟩
      · exact ⟨_, hTO⟩
      · exact ⟨_, g1⟩
      · exact ⟨_, g2⟩
    · rcases List.mem_append.mp hb with hb | hb
      · obtain ⟨o, e⟩ := s1.there b hb; exact ⟨o, k2 _ _ e⟩
      · obtain ⟨o, e⟩ := s2.there b hb; exact ⟨o, k2 _ _ e⟩
  · rcases List.mem_append.mp hb with hb | hb
    · simp at hb
      rcases hb with rfl | rfl | rfl | rfl | rfl
      · exact zc 4
      · exact zc 2
      · exact zc 3
      · exact zc 0
      · exact zc 1
    · rcases List.mem_append.mp hb with hb | hb
      · exact s1.cold b hb
      · exact s2.cold b hb
  · simp at hb
    rcases hb with rfl | rfl | rfl | rfl
    · exact ⟨_, _, st.zip, rfl⟩
    · exact absurd rfl hne
    · obtain ⟨o, fs, e, hd⟩ := s1.obj _ _ _ st.s1; exact ⟨o, _, e, hd⟩
    · obtain ⟨o, fs, e, hd⟩ := s2.obj _ _ _ st.s2; exact ⟨o, _, e, hd⟩
  · obtain ⟨a, b, e⟩ := st.to
    exact ⟨_, _, _, e, rfl, rfl⟩
  · rintro i vals ⟨x, y, px, py, rfl⟩
    obtain ⟨p, e1, rp⟩ := s1.item i x px
    obtain ⟨q, e2, rq⟩ := s2.item i y py
    exact ⟨x, y, p, q, rfl, zip_get e1 e2, rr rp, rr rq⟩
  · rintro i hh st A' s' Q' E' rfl hq
    exact wpAny_pyIter_zip st.zip hq
  · simp at hb
    rcases hb with rfl | rfl | rfl | rfl
    · exact fresh 4
    · exact fresh 3
    · exact fresh 0
    · exact fresh 1

theorem src_list {xs : List PV} : ∀ h Z v, Rel h Z (.list xs) v → ∃ ob fp P S, Src c h Z v xs ob fp P S := fun h Z v r => by
  cases r with
  | list za la ra => exact Src.list (.list za la ra)
theorem src_ascii {x : Str} (ha : x.cps.all (· < 128) = true) : ∀ h Z v, Rel h Z (.str x) v → ∃ ob fp P S, Src c h Z v (signs x) ob fp P S := fun h Z v r => by
  cases r with
  | str _ t => exact Src.ascii ha
end Mine
end

/-! PlT -/
section
set_option maxRecDepth 100000
set_option maxHeartbeats 1000000
namespace Mine
open PySem PySem.W PyProof.Rows PySem.Calls PySem.Spec
variable {c : Cx} {n : Nat} {env : Env} {W : List Str} {ρ : PEnv} {h₀ h : Heap} {Z Z₀ : Addr → Prop}

/-! The comprehension's premises, in a form that `rfl` proves. -/
noncomputable def KnL (full : List (Str × Addr)) (env : Env) (scope : Scope) (ρ : PEnv) : List (Str × Addr) → PEnv → Prop
  | [], [] => True
  | (y, a) :: cl, (y', q) :: ρb => y = y' ∧ q.isHot = false ∧ ρ.lookup y = some q ∧ (env.kindOf y = some .cell ∨ env.kindOf y = some .free) ∧
      ((relabel scope env).names.lookup y = some .cell ∨ (relabel scope env).names.lookup y = some .free) ∧ full.lookup y = some a ∧ env.cells.lookup y = some a ∧ (∀ k, (cellsFrom k scope.names []).lookup y = none) ∧ KnL full env scope ρ cl ρb
  | _, _ => False

theorem KnL.known {full : List (Str × Addr)} {scope : Scope} : ∀ {cl : List (Str × Addr)} {ρb : PEnv}, KnL full env scope ρ cl ρb → ∀ y q, (y, q) ∈ ρb → q.isHot = false ∧ ρ.lookup y = some q ∧ (env.kindOf y = some .cell ∨ env.kindOf y = some .free) ∧
    ((relabel scope env).names.lookup y = some .cell ∨ (relabel scope env).names.lookup y = some .free) ∧ (∃ a, full.lookup y = some a ∧ env.cells.lookup y = some a) ∧ (∀ k, (cellsFrom k scope.names []).lookup y = none)
  | [], [], _, y, q, hm => by simp at hm
  | (y', a) :: cl, (y'', q') :: ρb, ⟨e0, h1, h2, h3, h4, h5, h6, h7, hr⟩, y, q, hm => by
    subst e0
    rcases List.mem_cons.mp hm with e | hm
    · cases e; exact ⟨h1, h2, h3, h4, ⟨a, h5, h6⟩, h7⟩
    · exact hr.known y q hm
  | [], _ :: _, h, _, _, _ => h.elim
  | _ :: _, [], h, _, _, _ => h.elim
theorem KnL.all {full : List (Str × Addr)} {scope : Scope} : ∀ {cl : List (Str × Addr)} {ρb : PEnv}, KnL full env scope ρ cl ρb → ∀ y a, (y, a) ∈ cl → ∃ q, (y, q) ∈ ρb
  | [], [], _, y, q, hm => by simp at hm
  | (y', a) :: cl, (y'', q') :: ρb, ⟨e0, h1, h2, h3, h4, h5, h6, h7, hr⟩, y, q, hm => by
    subst e0
    rcases List.mem_cons.mp hm with e | hm
    · cases e; exact ⟨q', .head _⟩
    · obtain ⟨q, hq⟩ := hr.all y q hm
      exact ⟨q, .tail _ hq⟩
  | [], _ :: _, h, _, _, _ => h.elim
  | _ :: _, [], h, _, _, _ => h.elim

noncomputable def ownB (scope : Scope) (env : Env) (k : Addr) : List Str → Prop
  | [] => True
  | y :: W => ((cellsFrom k scope.names []).lookup y).isSome = true ∧ ownB scope env k W
theorem ownB.at {scope : Scope} {k : Addr} : ∀ {W : List Str}, ownB scope env k W → ∀ y ∈ W, ((cellsFrom k scope.names []).lookup y).isSome = true
  | [], _, y, hy => by simp at hy
  | x :: W, ⟨h1, h2⟩, y, hy => by
    rcases List.mem_cons.mp hy with rfl | hy
    · exact h1
    · exact h2.at y hy

theorem CompOk.of {scope : Scope} {cl : List (Str × Addr)} {ρb : PEnv} (hc : closureFor scope env = pure cl) (hk : KnL cl env scope ρ cl ρb) (kind : scope.kind = .function)
    (names : (scope.names.all fun x => x.2 != .local || scope.names.lookup x.1 == some .local) = true) (own : ∀ k, ownB scope env k W) : CompOk env scope cl ρ ρb W := by
  refine ⟨⟨hc, hk.known, hk.all⟩, kind, fun x hx e => ?_, fun k y hy _ => (own k).at y hy⟩
  have := (List.all_eq_true.mp names) x hx
  rw [e] at this
  simpa using this

theorem EVL.nil : EVL c n env ρ [] [] := trivial
theorem EVL.cons {e : Expr} {es : List Expr} {p : PV} {ps : List PV} (h : EV c n env ρ e p) (hs : EVL c n env ρ es ps) : EVL c n env ρ (e :: es) (p :: ps) := ⟨h, hs⟩
theorem EV.cast {e : Expr} {p q : PV} (h : EV c n env ρ e p) (k : p = q) : EV c n env ρ e q := k ▸ h
theorem TV.cast {e : Expr} {p q : Bool} (h : TV c n env ρ e p) (k : p = q) : TV c n env ρ e q := k ▸ h

/-! Comprehensions and loops over native lists. -/
open Classical in
noncomputable def lift {α β : Type} (e : α → PV) (d : β) (f : α → β) (p : PV) : β := if h : ∃ y, e y = p then f h.choose else d
theorem lift_at {α β : Type} {e : α → PV} (inj : ∀ a b, e a = e b → a = b) (d : β) (f : α → β) (y : α) : lift e d f (e y) = f y := by
  unfold lift
  have h : ∃ y', e y' = e y := ⟨y, rfl⟩
  rw [dif_pos h, inj _ _ h.choose_spec]
theorem lift_list {α β : Type} {e : α → PV} (inj : ∀ a b, e a = e b → a = b) (bs : α → Bool) (e2 : β → PV) (g : α → β) (ys : List α) :
    ((ys.map e).filter (lift e false bs)).map (lift e .none fun y => e2 (g y)) = ((ys.filter bs).map g).map e2 := by
  induction ys with
  | nil => rfl
  | cons y ys ih =>
    simp only [List.map_cons, List.filter_cons, lift_at inj]
    cases bs y with
    | true => simp only [if_true, List.map_cons, lift_at inj, ih]
    | false => simpa using ih

theorem EV.compN {α β : Type} {elt iter : Expr} {x : Str} {xp : Pos} {ifs : List Expr} {scope : Scope} {pos : Pos} (cl : List (Str × Addr)) (ρb : PEnv) (W : List Str) (ys : List α) (e : α → PV) (inj : ∀ a b, e a = e b → a = b) (bs : α → Bool) (e2 : β → PV) (g : α → β)
    (hit : IT c n env ρ iter (ys.map e)) (C : CompOk env scope cl ρ ρb W) (T : TgOk env scope ρb W x)
    (hifs : ∀ B, ∀ y ∈ ys, IFS c n (cEnv scope cl B env) (ρb.set x (e y)) ifs (bs y))
    (helt : ∀ B, ∀ y ∈ ys, bs y = true → EV c n (cEnv scope cl B env) (ρb.set x (e y)) elt (e2 (g y)))
    (hsz : ys.length ≤ 100000) (hs : ∀ v, foldedSetIterable iter env v = pure v := by intro _; rfl) :
    EV c n env ρ (.ListComp elt [⟨.Name x xp, iter, ifs, 0⟩] scope pos) (.list (((ys.filter bs).map g).map e2)) := by
  refine (EV.comp (xs := ys.map e) cl ρb W (lift e false bs) (lift e .none fun y => e2 (g y)) hit C T (fun B p hp _ => ?_) (fun B p hp _ hb => ?_) ?_ hs).cast (by rw [lift_list inj])
  · obtain ⟨y, hy, rfl⟩ := List.mem_map.mp hp
    rw [lift_at inj]; exact hifs B y hy
  · obtain ⟨y, hy, rfl⟩ := List.mem_map.mp hp
    rw [lift_at inj] at hb
    rw [lift_at inj]; exact helt B y hy hb
  · rw [List.length_map, sizeLine_eq]; omega

theorem EX1.compN {α β : Type} {elt iter : Expr} {x y : Str} {xp yp : Pos} {ifs : List Expr} {scope : Scope} {pos spos : Pos} {Φ : PF → PEnv → Prop} (cl : List (Str × Addr)) (ρb : PEnv) (W' : List Str) (ys : List α) (e : α → PV) (inj : ∀ a b, e a = e b → a = b) (bs : α → Bool) (e2 : β → PV) (g : α → β)
    (hit : IT c n env ρ iter (ys.map e)) (C : CompOk env scope cl ρ ρb W') (T : TgOk env scope ρb W' x)
    (hifs : ∀ B, ∀ y ∈ ys, IFS c n (cEnv scope cl B env) (ρb.set x (e y)) ifs (bs y))
    (helt : ∀ B, ∀ y ∈ ys, bs y = true → EV c n (cEnv scope cl B env) (ρb.set x (e y)) elt (e2 (g y)))
    (hsz : ys.length ≤ 100000) (hy : env.kindOf y = some .local)
    (hsw : swapsWith (.ListComp elt [⟨.Name x xp, iter, ifs, 0⟩] scope pos) (some (.Name y yp)) spos.line env = pure true)
    (h : Φ .next (ρ.set y (.list (((ys.filter bs).map g).map e2)))) (hs : ∀ v, foldedSetIterable iter env v = pure v := by intro _; rfl) :
    EX1 c n env W (.Assign [.Name y yp] (.ListComp elt [⟨.Name x xp, iter, ifs, 0⟩] scope pos) spos) ρ Φ := by
  refine EX1.comp (xs := ys.map e) cl ρb W' (lift e false bs) (lift e .none fun y => e2 (g y)) hit C T (fun B p hp _ => ?_) (fun B p hp _ hb => ?_) ?_ hy hsw (by rw [lift_list inj]; exact h) hs
  · obtain ⟨y, hy, rfl⟩ := List.mem_map.mp hp
    rw [lift_at inj]; exact hifs B y hy
  · obtain ⟨y, hy, rfl⟩ := List.mem_map.mp hp
    rw [lift_at inj] at hb
    rw [lift_at inj]; exact helt B y hy hb
  · rw [List.length_map, sizeLine_eq]; omega

theorem EV.comp2N {α α2 β : Type} {elt iter iter2 : Expr} {x x2 : Str} {xp xp2 : Pos} {ifs2 : List Expr} {scope : Scope} {pos : Pos} (cl : List (Str × Addr)) (ρb : PEnv) (W : List Str) (ys : List α) (e : α → PV) (inj : ∀ a b, e a = e b → a = b)
    (zs : List α2) (e' : α2 → PV) (inj' : ∀ a b, e' a = e' b → a = b) (bs : α → α2 → Bool) (e2 : β → PV) (g : α → α2 → β)
    (hit : IT c n env ρ iter (ys.map e)) (C : CompOk env scope cl ρ ρb W) (T : TgOk env scope ρb W x) (T2 : TgOk env scope ρb W x2) (hne : x2 ≠ x)
    (hit2 : ∀ B, ∀ y ∈ ys, IT c n (cEnv scope cl B env) (ρb.set x (e y)) iter2 (zs.map e'))
    (hifs : ∀ B, ∀ y ∈ ys, ∀ z ∈ zs, IFS c n (cEnv scope cl B env) ((ρb.set x (e y)).set x2 (e' z)) ifs2 (bs y z))
    (helt : ∀ B, ∀ y ∈ ys, ∀ z ∈ zs, bs y z = true → EV c n (cEnv scope cl B env) ((ρb.set x (e y)).set x2 (e' z)) elt (e2 (g y z)))
    (hsz : ys.length * zs.length ≤ 100000)
    (hs : ∀ v, foldedSetIterable iter env v = pure v := by intro _; rfl) (hs2 : ∀ B v, foldedSetIterable iter2 (cEnv scope cl B env) v = pure v := by intro _ _; rfl) :
    EV c n env ρ (.ListComp elt [⟨.Name x xp, iter, [], 0⟩, ⟨.Name x2 xp2, iter2, ifs2, 0⟩] scope pos) (.list ((ys.flatMap fun y => (zs.filter (bs y)).map (g y)).map e2)) := by
  have key : ((ys.map e).flatMap fun p => ((zs.map e').filter (lift e (fun _ => false) (fun y => lift e' false (bs y)) p)).map (lift e (fun _ => .none) (fun y => lift e' .none fun z => e2 (g y z)) p)) = (ys.flatMap fun y => (zs.filter (bs y)).map (g y)).map e2 := by
    clear hit hsz hit2 hifs helt
    induction ys with
    | nil => rfl
    | cons y ys ih =>
      simp only [List.map_cons, List.flatMap_cons, lift_at inj, ih, lift_list inj', List.map_append]
  refine (EV.comp2 (xs := ys.map e) cl ρb W (fun _ => zs.map e') (lift e (fun _ => false) (fun y => lift e' false (bs y))) (lift e (fun _ => .none) (fun y => lift e' .none fun z => e2 (g y z))) hit C T T2 hne (fun B p hp _ => ?_) (fun B p hp _ q hq _ => ?_) (fun B p hp _ q hq _ hb => ?_) ?_ hs hs2).cast (by rw [key])
  · obtain ⟨y, hy, rfl⟩ := List.mem_map.mp hp
    exact hit2 B y hy
  · obtain ⟨y, hy, rfl⟩ := List.mem_map.mp hp
    obtain ⟨z, hz, rfl⟩ := List.mem_map.mp hq
    rw [lift_at inj, lift_at inj']; exact hifs B y hy z hz
  · obtain ⟨y, hy, rfl⟩ := List.mem_map.mp hp
    obtain ⟨z, hz, rfl⟩ := List.mem_map.mp hq
    rw [lift_at inj, lift_at inj'] at hb
    rw [lift_at inj, lift_at inj']; exact helt B y hy z hz hb
  · rw [key, List.length_map, sizeLine_eq]
    have : (ys.flatMap fun y => (zs.filter (bs y)).map (g y)).length ≤ ys.length * zs.length := by
      clear hit hsz hit2 hifs helt key
      induction ys with
      | nil => simp
      | cons y ys ih =>
        rw [List.flatMap_cons, List.length_append, List.length_cons, Nat.add_mul, Nat.one_mul, List.length_map]
        have := List.length_filter_le (bs y) zs
        omega
    omega

theorem EV.compZipN {α α2 β : Type} {elt iter : Expr} {x y : Str} {xp yp tp : Pos} {kk : Nat} {ifs : List Expr} {scope : Scope} {pos : Pos} (cl : List (Str × Addr)) (ρb : PEnv) (W : List Str) (ps : List (α × α2)) (e : α → PV) (inj : ∀ a b, e a = e b → a = b)
    (e' : α2 → PV) (inj' : ∀ a b, e' a = e' b → a = b) (bs : α → α2 → Bool) (e2 : β → PV) (g : α → α2 → β)
    (hit : ITT c n env ρ iter (ps.map fun r => (e r.1, e' r.2))) (CC : CompOk env scope cl ρ ρb W) (T : TgOk env scope ρb W x) (T2 : TgOk env scope ρb W y)
    (hifs : ∀ B, ∀ r ∈ ps, IFS c n (cEnv scope cl B env) ((ρb.set x (e r.1)).set y (e' r.2)) ifs (bs r.1 r.2))
    (helt : ∀ B, ∀ r ∈ ps, bs r.1 r.2 = true → EV c n (cEnv scope cl B env) ((ρb.set x (e r.1)).set y (e' r.2)) elt (e2 (g r.1 r.2)))
    (hsz : ps.length ≤ 100000) (hs : ∀ v, foldedSetIterable iter env v = pure v := by intro _; rfl) :
    EV c n env ρ (.ListComp elt [⟨.Tuple [.Name x xp, .Name y yp] kk tp, iter, ifs, 0⟩] scope pos) (.list (((ps.filter fun r => bs r.1 r.2).map fun r => g r.1 r.2).map e2)) := by
  have key : (((ps.map fun r => (e r.1, e' r.2)).filter fun r => lift e (fun _ => false) (fun y => lift e' false (bs y)) r.1 r.2).map fun r => lift e (fun _ => .none) (fun y => lift e' .none fun z => e2 (g y z)) r.1 r.2) = ((ps.filter fun r => bs r.1 r.2).map fun r => g r.1 r.2).map e2 := by
    clear hit hsz hifs helt
    induction ps with
    | nil => rfl
    | cons r ps ih =>
      simp only [List.map_cons, List.filter_cons, lift_at inj, lift_at inj'] at ih ⊢
      cases bs r.1 r.2 with
      | true => simp only [if_true, List.map_cons, lift_at inj, lift_at inj', ih]
      | false => simpa using ih
  refine (EV.compZip (ps := ps.map fun r => (e r.1, e' r.2)) cl ρb W (lift e (fun _ => false) (fun y => lift e' false (bs y))) (lift e (fun _ => .none) (fun y => lift e' .none fun z => e2 (g y z))) hit CC T T2 (fun B r hr _ _ => ?_) (fun B r hr _ _ hb => ?_) ?_ hs).cast (by rw [key])
  · obtain ⟨r, hm, rfl⟩ := List.mem_map.mp hr
    rw [lift_at inj, lift_at inj']; exact hifs B r hm
  · obtain ⟨r, hm, rfl⟩ := List.mem_map.mp hr
    rw [lift_at inj, lift_at inj'] at hb
    rw [lift_at inj, lift_at inj']; exact helt B r hm hb
  · rw [List.length_map, sizeLine_eq]; omega

theorem filt_true {α : Type} (l : List α) : l.filter (fun _ => true) = l := List.filter_eq_self.mpr fun _ _ => rfl
theorem EV.compA {α β : Type} {elt iter : Expr} {x : Str} {xp : Pos} {scope : Scope} {pos : Pos} (cl : List (Str × Addr)) (ρb : PEnv) (W : List Str) (ys : List α) (e : α → PV) (inj : ∀ a b, e a = e b → a = b) (e2 : β → PV) (g : α → β)
    (hit : IT c n env ρ iter (ys.map e)) (C : CompOk env scope cl ρ ρb W) (T : TgOk env scope ρb W x)
    (helt : ∀ B, ∀ y ∈ ys, EV c n (cEnv scope cl B env) (ρb.set x (e y)) elt (e2 (g y)))
    (hsz : ys.length ≤ 100000) (hs : ∀ v, foldedSetIterable iter env v = pure v := by intro _; rfl) :
    EV c n env ρ (.ListComp elt [⟨.Name x xp, iter, [], 0⟩] scope pos) (.list ((ys.map g).map e2)) :=
  (EV.compN cl ρb W ys e inj (fun _ => true) e2 g hit C T (fun _ _ _ => IFS.nil) (fun B y hy _ => helt B y hy) hsz hs).cast (by rw [filt_true])
theorem EX1.compA {α β : Type} {elt iter : Expr} {x y : Str} {xp yp : Pos} {scope : Scope} {pos spos : Pos} {Φ : PF → PEnv → Prop} (cl : List (Str × Addr)) (ρb : PEnv) (W' : List Str) (ys : List α) (e : α → PV) (inj : ∀ a b, e a = e b → a = b) (e2 : β → PV) (g : α → β)
    (hit : IT c n env ρ iter (ys.map e)) (C : CompOk env scope cl ρ ρb W') (T : TgOk env scope ρb W' x)
    (helt : ∀ B, ∀ y ∈ ys, EV c n (cEnv scope cl B env) (ρb.set x (e y)) elt (e2 (g y)))
    (hsz : ys.length ≤ 100000) (hy : env.kindOf y = some .local)
    (hsw : swapsWith (.ListComp elt [⟨.Name x xp, iter, [], 0⟩] scope pos) (some (.Name y yp)) spos.line env = pure true)
    (h : Φ .next (ρ.set y (.list ((ys.map g).map e2)))) (hs : ∀ v, foldedSetIterable iter env v = pure v := by intro _; rfl) :
    EX1 c n env W (.Assign [.Name y yp] (.ListComp elt [⟨.Name x xp, iter, [], 0⟩] scope pos) spos) ρ Φ :=
  EX1.compN cl ρb W' ys e inj (fun _ => true) e2 g hit C T (fun _ _ _ => IFS.nil) (fun B y hy _ => helt B y hy) hsz hy hsw (by rw [filt_true]; exact h) hs
theorem EV.compZipA {α α2 β : Type} {elt iter : Expr} {x y : Str} {xp yp tp : Pos} {kk : Nat} {scope : Scope} {pos : Pos} (cl : List (Str × Addr)) (ρb : PEnv) (W : List Str) (ps : List (α × α2)) (e : α → PV) (inj : ∀ a b, e a = e b → a = b)
    (e' : α2 → PV) (inj' : ∀ a b, e' a = e' b → a = b) (e2 : β → PV) (g : α → α2 → β)
    (hit : ITT c n env ρ iter (ps.map fun r => (e r.1, e' r.2))) (CC : CompOk env scope cl ρ ρb W) (T : TgOk env scope ρb W x) (T2 : TgOk env scope ρb W y)
    (helt : ∀ B, ∀ r ∈ ps, EV c n (cEnv scope cl B env) ((ρb.set x (e r.1)).set y (e' r.2)) elt (e2 (g r.1 r.2)))
    (hsz : ps.length ≤ 100000) (hs : ∀ v, foldedSetIterable iter env v = pure v := by intro _; rfl) :
    EV c n env ρ (.ListComp elt [⟨.Tuple [.Name x xp, .Name y yp] kk tp, iter, [], 0⟩] scope pos) (.list ((ps.map fun r => g r.1 r.2).map e2)) :=
  (EV.compZipN cl ρb W ps e inj e' inj' (fun _ _ => true) e2 g hit CC T T2 (fun _ _ _ => IFS.nil) (fun B r hr _ => helt B r hr) hsz hs).cast (by rw [filt_true])

theorem EX1.forN {α σ : Type} {x : Str} {xp pos : Pos} {iter : Expr} {body : List Stmt} {Φ : PF → PEnv → Prop} (ys : List α) (e : α → PV) (vars : σ → PEnv) (J : Nat → σ → Prop) (st₀ : σ) (hit : IT c n env ρ iter (ys.map e)) (hx : Stored env W x)
    (h0 : J 0 st₀) (hs0 : Sub (vars st₀) ρ)
    (turn : ∀ i y st, ys[i]? = some y → J i st → EX c n env W body ((vars st).set x (e y)) (fun f ρ₂ => match f with | .next => ∃ st', J (i + 1) st' ∧ Sub (vars st') ρ₂ | .ret q => Φ (.ret q) ρ₂))
    (done : ∀ st, J ys.length st → Φ .next (vars st)) (hs : ∀ v, foldedSetIterable iter env v = pure v := by intro _; rfl) : EX1 c n env W (.For (.Name x xp) iter body [] pos) ρ Φ := by
  refine EX1.forS vars J st₀ hit hx h0 hs0 (fun i p st hp _ hJ => ?_) (fun st hJ => done st (by rwa [List.length_map] at hJ)) hs
  rw [List.getElem?_map] at hp
  obtain ⟨y, hy, rfl⟩ := Option.map_eq_some_iff.mp hp
  exact turn i y st hy hJ

theorem swap_post {A : Around} {s : Shared} {y : Str} {yp : Pos} {ps : List PV} {Φ : PF → PEnv → Prop} {Q : Flow → Shared → Prop} {E : Value → Shared → Prop} (S : St c env W h₀ Z₀ s.heap Z ρ) (hy : env.kindOf y = some .local)
    (hq : ∀ fl f ρ' Z' h' tk, Φ f ρ' → RelF h' Z' f fl → St c env W h₀ Z₀ h' Z' ρ' → KeepBut Z s.heap h' → (∀ a, Z' a → Z a ∨ s.heap.get? a = none) → Q fl { s with heap := h', toks := tk }) (h : Φ .next (ρ.set y (.list ps))) :
    ∀ D B h' tk vs, Keep s.heap h' → h'.PlainList D vs.toArray → RelL h' Z ps vs → ¬ Z D → s.heap.get? D = none → s.heap.get? B = none → D ≠ B → (∃ m, h'.Ns B m) →
      compPost c.M A E (some (PySem.assign (.Name y yp) env)) (fun _ s' => Q .next s') (.ref D) B (.ok .next) { s with heap := h', toks := tk } := by
  intro D B h1 tk vs k hl r hz hD hB hDB hm
  show wpAny _ A (PySem.assign (.Name y yp) env (.ref D)) _ _ _
  have S1 := S.keeps k
  refine wpAny_assign_Name ?_
  refine St.store (s := { s with heap := h1, toks := tk }) S1 (.inl hy) (.list hz hl r) rfl fun h2 t2 S2 kb2 _ => ?_
  obtain ⟨m, hm⟩ := hm
  have hne : B ≠ env.locals := fun e => by
    obtain ⟨m', n'⟩ := S.wr.ns
    obtain ⟨o, _, _, e', _⟩ := n'
    rw [← e, hB] at e'; cases e'
  have hzB : ¬ Z B := fun q => by obtain ⟨o, e⟩ := S.z B q; rw [hB] at e; cases e
  have hm2 : h2.Ns B m := by
    obtain ⟨o, es, ep, e, r⟩ := hm
    exact ⟨o, es, ep, kb2 B o hzB e, r⟩
  refine ⟨m, hm2, fun h3 hs3 => ?_⟩
  have kk : ∀ b o, b ≠ B → h2.get? b = some o → h3.get? b = some o := fun b o ne e => (hs3.2 b ne).trans e
  have S3 : St c env W h₀ Z₀ h3 Z (ρ.set y (.list ps)) := S2.offB kk hm2 hne (by
    cases q : h₀.get? B with
    | none => rfl
    | some o => rw [S.keep _ _ q] at hB; cases hB) hzB
  refine hq _ _ _ Z h3 t2 h .next S3 (fun b o q e => ?_) fun _ z => .inl z
  exact kk b o (fun e' => by rw [e', hB] at e; cases e) (kb2 b o q (k _ _ e))

theorem EX1.comp2 {elt iter iter2 : Expr} {x x2 y : Str} {xp xp2 yp : Pos} {ifs2 : List Expr} {scope : Scope} {pos spos : Pos} {Φ : PF → PEnv → Prop} (cl : List (Str × Addr)) (ρb : PEnv) (W' : List Str) {xs : List PV} (xs2 : PV → List PV) (bs : PV → PV → Bool) (f : PV → PV → PV)
    (hit : IT c n env ρ iter xs) (C : CompOk env scope cl ρ ρb W') (T : TgOk env scope ρb W' x) (T2 : TgOk env scope ρb W' x2) (hne : x2 ≠ x)
    (hit2 : ∀ B, ∀ p ∈ xs, p.isHot = false → IT c n (cEnv scope cl B env) (ρb.set x p) iter2 (xs2 p))
    (hifs : ∀ B, ∀ p ∈ xs, p.isHot = false → ∀ q ∈ xs2 p, q.isHot = false → IFS c n (cEnv scope cl B env) ((ρb.set x p).set x2 q) ifs2 (bs p q))
    (helt : ∀ B, ∀ p ∈ xs, p.isHot = false → ∀ q ∈ xs2 p, q.isHot = false → bs p q = true → EV c n (cEnv scope cl B env) ((ρb.set x p).set x2 q) elt (f p q))
    (hsz : (xs.flatMap fun p => ((xs2 p).filter (bs p)).map (f p)).length ≤ sizeLine) (hy : env.kindOf y = some .local)
    (hsw : swapsWith (.ListComp elt [⟨.Name x xp, iter, [], 0⟩, ⟨.Name x2 xp2, iter2, ifs2, 0⟩] scope pos) (some (.Name y yp)) spos.line env = pure true)
    (h : Φ .next (ρ.set y (.list (xs.flatMap fun p => ((xs2 p).filter (bs p)).map (f p)))))
    (hs : ∀ v, foldedSetIterable iter env v = pure v := by intro _; rfl) (hs2 : ∀ B v, foldedSetIterable iter2 (cEnv scope cl B env) v = pure v := by intro _ _; rfl) :
    EX1 c n env W (.Assign [.Name y yp] (.ListComp elt [⟨.Name x xp, iter, [], 0⟩, ⟨.Name x2 xp2, iter2, ifs2, 0⟩] scope pos) spos) ρ Φ := by
  intro A s Z Z₀ h₀ Q E g S hq
  have er : (xs.flatMap fun p => if (fun _ => true) p then ((xs2 p).filter (bs p)).map (f p) else []) = xs.flatMap fun p => ((xs2 p).filter (bs p)).map (f p) := by simp
  rw [exec_Assign_Name_used _ _ _ _ hsw]
  refine wpAny_bind (wpAny_standAt (wpAny_bind ?_))
  show wpAny _ A (do let _ ← comprehension (.ListComp elt [⟨.Name x xp, iter, [], 0⟩, ⟨.Name x2 xp2, iter2, ifs2, 0⟩] scope pos) scope env _ (newList []) false (eval iter env) (some (PySem.assign (.Name y yp) env))) _ _ s
  refine wpAny_bind (wpAny_mono (comp_core (use := some (PySem.assign (.Name y yp) env)) (Q := fun _ s' => Q .next s') (W := W') (bs := fun _ => true) (outs := fun p => ((xs2 p).filter (bs p)).map (f p))
    (t := fun B acc => innerT (Expr.ListComp elt [⟨Expr.Name x xp, iter, [], 0⟩, ⟨Expr.Name x2 xp2, iter2, ifs2, 0⟩] scope pos) iter2 acc (cEnv scope cl B env)) hit C.clos C.kind C.names T.free C.own T.st (fun B it acc => turn_outer ..)
    (fun B p hp hh => IFS.nil) (fun B p hp hh _ => ?_) (by rw [er]; exact hsz) g S.baseNow S.fr S.z hs (by rw [er]; exact swap_post S hy hq h)) (fun _ s' hq' => wpAny_pure (wpAny_pure hq')) fun _ _ e => e)
  refine TailOK.inner (bs p) (f p) (hit2 B p hp hh) (fun it acc => turn_inner ..) rfl T2.st ?_ ?_ (set_sub T.free) (fun q hq hhq => hifs B p hp hh q hq hhq) (fun q hq hhq hb => helt B p hp hh q hq hhq hb) (hs2 B)
  · rw [PEnv.set_off hne]; exact T2.free
  · intro y l e
    by_cases hy : y = x
    · subst hy; rw [PEnv.set_here] at e; cases e; cases hh
    · rw [PEnv.set_off hy] at e; exact C.clos.noHot y l e

theorem inj_int : ∀ a b : Int, PV.int a = PV.int b → a = b := fun a b h => by injection h
theorem inj_nat : ∀ a b : Nat, PV.int (a : Int) = PV.int (b : Int) → a = b := fun a b h => by injection h with h; exact Int.ofNat.inj h
theorem inj_str : ∀ a b : Str, PV.str a = PV.str b → a = b := fun a b h => by injection h
theorem inj_map {α : Type} {e : α → PV} (inj : ∀ a b, e a = e b → a = b) : ∀ a b : List α, a.map e = b.map e → a = b
  | [], [], _ => rfl
  | [], _ :: _, h => by simp at h
  | _ :: _, [], h => by simp at h
  | x :: a, y :: b, h => by
    simp only [List.map_cons, List.cons.injEq] at h
    rw [inj _ _ h.1, inj_map inj _ _ h.2]
theorem inj_list {α : Type} {e : α → PV} (inj : ∀ a b, e a = e b → a = b) : ∀ a b : List α, PV.list (a.map e) = PV.list (b.map e) → a = b := fun a b h => by
  injection h with h; exact inj_map inj a b h
theorem inj_zl : ∀ a b : List Int, zl a = zl b → a = b := inj_list inj_int

theorem EX1.comp2A {α α2 β : Type} {elt iter iter2 : Expr} {x x2 y : Str} {xp xp2 yp : Pos} {scope : Scope} {pos spos : Pos} {Φ : PF → PEnv → Prop} (cl : List (Str × Addr)) (ρb : PEnv) (W' : List Str) (ys : List α) (e : α → PV) (inj : ∀ a b, e a = e b → a = b)
    (zs : List α2) (e' : α2 → PV) (inj' : ∀ a b, e' a = e' b → a = b) (e2 : β → PV) (g : α → α2 → β)
    (hit : IT c n env ρ iter (ys.map e)) (C : CompOk env scope cl ρ ρb W') (T : TgOk env scope ρb W' x) (T2 : TgOk env scope ρb W' x2) (hne : x2 ≠ x)
    (hit2 : ∀ B, ∀ y ∈ ys, IT c n (cEnv scope cl B env) (ρb.set x (e y)) iter2 (zs.map e'))
    (helt : ∀ B, ∀ y ∈ ys, ∀ z ∈ zs, EV c n (cEnv scope cl B env) ((ρb.set x (e y)).set x2 (e' z)) elt (e2 (g y z)))
    (hsz : ys.length * zs.length ≤ 100000) (hy : env.kindOf y = some .local)
    (hsw : swapsWith (.ListComp elt [⟨.Name x xp, iter, [], 0⟩, ⟨.Name x2 xp2, iter2, [], 0⟩] scope pos) (some (.Name y yp)) spos.line env = pure true)
    (h : Φ .next (ρ.set y (.list ((ys.flatMap fun y => zs.map (g y)).map e2))))
    (hs : ∀ v, foldedSetIterable iter env v = pure v := by intro _; rfl) (hs2 : ∀ B v, foldedSetIterable iter2 (cEnv scope cl B env) v = pure v := by intro _ _; rfl) :
    EX1 c n env W (.Assign [.Name y yp] (.ListComp elt [⟨.Name x xp, iter, [], 0⟩, ⟨.Name x2 xp2, iter2, [], 0⟩] scope pos) spos) ρ Φ := by
  have key : ((ys.map e).flatMap fun p => ((zs.map e').filter fun _ => true).map (lift e (fun _ => .none) (fun y => lift e' .none fun z => e2 (g y z)) p)) = (ys.flatMap fun y => zs.map (g y)).map e2 := by
    clear hit hsz hit2 helt h
    induction ys with
    | nil => rfl
    | cons y ys ih =>
      have h1 : ((zs.map e').filter fun _ => true).map (lift e' .none fun z => e2 (g y z)) = (zs.map (g y)).map e2 := by
        rw [filt_true, List.map_map, List.map_map]
        refine List.map_congr_left fun z _ => ?_
        exact lift_at inj' _ _ z
      simp only [List.map_cons, List.flatMap_cons, lift_at inj, ih, h1, List.map_append]
  refine EX1.comp2 (xs := ys.map e) cl ρb W' (fun _ => zs.map e') (fun _ _ => true) (lift e (fun _ => .none) (fun y => lift e' .none fun z => e2 (g y z))) hit C T T2 hne (fun B p hp _ => ?_) (fun B p hp _ q hq _ => IFS.nil) (fun B p hp _ q hq _ hb => ?_) ?_ hy hsw (by rw [key]; exact h) hs hs2
  · obtain ⟨y, hy, rfl⟩ := List.mem_map.mp hp
    exact hit2 B y hy
  · obtain ⟨y, hy, rfl⟩ := List.mem_map.mp hp
    obtain ⟨z, hz, rfl⟩ := List.mem_map.mp hq
    rw [lift_at inj, lift_at inj']; exact helt B y hy z hz
  · rw [key, List.length_map, sizeLine_eq]
    have : (ys.flatMap fun y => zs.map (g y)).length ≤ ys.length * zs.length := by
      clear hit hsz hit2 helt key h
      induction ys with
      | nil => simp
      | cons y ys ih =>
        rw [List.flatMap_cons, List.length_append, List.length_cons, Nat.add_mul, Nat.one_mul, List.length_map]
        omega
    omega

/-! A tactic's worth of rules. -/
end Mine
end

/-! PlU -/
section
set_option maxRecDepth 100000
set_option maxHeartbeats 1000000
namespace Mine
open PySem PySem.W PyProof.Rows PySem.Calls PySem.Spec
variable {c : Cx} {n : Nat} {env : Env} {W : List Str} {ρ : PEnv}

/-! Floats. -/
theorem BinOK.addF {a b : UInt64} : BinOK c n .Add (.flt a) (.flt b) (.flt (Float64.add a b)) := by
  intro A s Z va vb g bs z ra rb Q E h
  cases ra; cases rb
  exact AutoFloatOps.add_0 (h _ s.heap _ Keep.refl (.flt _ _))
theorem BinOK.subF {a b : UInt64} : BinOK c n .Sub (.flt a) (.flt b) (.flt (Float64.sub a b)) := by
  intro A s Z va vb g bs z ra rb Q E h
  cases ra; cases rb
  exact AutoFloatOps.sub_0 (h _ s.heap _ Keep.refl (.flt _ _))
theorem BinOK.divF {a b : UInt64} (hb : Float64.isZero b = false) : BinOK c n .Div (.flt a) (.flt b) (.flt (Float64.div a b)) := by
  intro A s Z va vb g bs z ra rb Q E h
  cases ra; cases rb
  exact truediv_float_or g.h (fun q => by rw [hb] at q; cases q) fun _ => h _ s.heap _ Keep.refl (.flt _ _)
theorem BinOK.divI {a b : Int} (hb : b ≠ 0) (hf : a.natAbs < 2 ^ 1023) : BinOK c n .Div (.int a) (.int b) (.flt (Float64.ofFrac (decide (a < 0) != decide (b < 0)) a.natAbs b.natAbs)) := by
  intro A s Z va vb g bs z ra rb Q E h
  cases ra; cases rb
  exact PySem.Flt.div_ii_fits g.h hf (fun q => absurd q hb) fun _ _ => h _ s.heap _ Keep.refl (.flt _ _)
theorem BinOK.modF {a b : UInt64} (hb : Float64.isZero b = false) : BinOK c n .Mod (.flt a) (.flt b) (.flt (Float64.divmod a b).2) := by
  intro A s Z va vb g bs z ra rb Q E h
  cases ra; cases rb
  exact PySem.Flt.mod_ff g.h (fun q => by rw [hb] at q; cases q) fun _ => h _ s.heap _ Keep.refl (.flt _ _)
theorem BinOK.mulIF {i : Int} {b : UInt64} (hf : i.natAbs < 2 ^ 1023) : BinOK c n .Mult (.int i) (.flt b) (.flt (Float64.mul (Float64.ofInt i) b)) := by
  intro A s Z va vb g bs z ra rb Q E h
  cases ra; cases rb
  exact mul_if_fits hf (h _ s.heap _ Keep.refl (.flt _ _))
theorem CmpOK.eqF {a b : UInt64} : CmpOK c n .Eq (.flt a) (.flt b) (Float64.cmp a b == some .eq) := by
  intro A s Z va vb g bs z ra rb Q E h
  cases ra; cases rb
  exact AutoFloatOps.eq_0 (h _ s.heap s.toks Keep.refl (.bool _))
theorem CmpOK.neF {a b : UInt64} : CmpOK c n .NotEq (.flt a) (.flt b) (Float64.cmp a b != some .eq) := by
  intro A s Z va vb g bs z ra rb Q E h
  cases ra; cases rb
  exact AutoFloatOps.ne_0 (h _ s.heap s.toks Keep.refl (.bool _))
theorem CallV.roundF {a : UInt64} (hf : Float64.isFinite a = true) (h1 : Float64.isNaN a = false) (h2 : Float64.isInf a = false) : CallV c n (.builtin "round") [.flt a] (.int (PySem.Flt.toInt Float64.nearestOf a)) := by
  intro A s Z vs g b z r Q E h
  obtain ⟨v, rfl, r1⟩ := r.is1
  cases r1
  exact PySem.Flt.call_round_float g.h (fun q => by rw [h1] at q; cases q) (fun q => by rw [h2] at q; cases q) fun _ => h _ s.heap _ Keep.refl (.int _ _)

/-! max and min of three. -/
noncomputable def pick3 {α : Type} (bt : α → α → Bool) (a b d : α) : α := if bt d (if bt b a then b else a) then d else if bt b a then b else a

theorem best3 {α : Type} (bt : α → α → Bool) (a b d : α) (x : Nat → α) (h0 : x 0 = a) (h1 : x 1 = b) (h2 : x 2 = d) : x (argBest (fun i j => bt (x i) (x j)) 2) = pick3 bt a b d := by
  unfold pick3
  by_cases q : bt b a = true
  · have e1 : argBest (fun i j => bt (x i) (x j)) 1 = 1 := by simp [argBest, h0, h1, q]
    by_cases r : bt d b = true
    · have e2 : argBest (fun i j => bt (x i) (x j)) 2 = 2 := by
        show (if bt (x 2) (x (argBest (fun i j => bt (x i) (x j)) 1)) then 2 else _) = 2
        rw [e1, h1, h2, if_pos r]
      rw [e2, h2]; simp [q, r]
    · have e2 : argBest (fun i j => bt (x i) (x j)) 2 = 1 := by
        show (if bt (x 2) (x (argBest (fun i j => bt (x i) (x j)) 1)) then 2 else argBest (fun i j => bt (x i) (x j)) 1) = 1
        rw [e1, h1, h2, if_neg r]
      rw [e2, h1]; simp [q, r]
  · have e1 : argBest (fun i j => bt (x i) (x j)) 1 = 0 := by simp [argBest, h0, h1, q]
    by_cases r : bt d a = true
    · have e2 : argBest (fun i j => bt (x i) (x j)) 2 = 2 := by
        show (if bt (x 2) (x (argBest (fun i j => bt (x i) (x j)) 1)) then 2 else _) = 2
        rw [e1, h0, h2, if_pos r]
      rw [e2, h2]; simp [q, r]
    · have e2 : argBest (fun i j => bt (x i) (x j)) 2 = 0 := by
        show (if bt (x 2) (x (argBest (fun i j => bt (x i) (x j)) 1)) then 2 else argBest (fun i j => bt (x i) (x j)) 1) = 0
        rw [e1, h0, h2, if_neg r]
      rw [e2, h0]; simp [q, r]

theorem argBest_le (bt : Nat → Nat → Bool) : ∀ k, argBest bt k ≤ k
  | 0 => Nat.le_refl _
  | k + 1 => by
    unfold argBest
    split
    · exact Nat.le_refl _
    · exact Nat.le_succ_of_le (argBest_le bt k)
theorem three_walk {A : Around} {s : Shared} {va vb vd : Value} (hh : A.handled = none) {Q : Value → Shared → Prop} {E : Value → Shared → Prop} {bt : Nat → Nat → Bool} {op : CmpOp}
    (hc : ∀ A : Around, CmpOf c.prog c.w A op (fun i v => (#[va, vb, vd] : Array Value)[i]? = some v) bt)
    (hq : ∀ v h' tk, Keep s.heap h' → (#[va, vb, vd] : Array Value)[argBest bt 2]? = some v → Q v { s with heap := h', toks := tk }) :
    wpAny c.M A.in1 (pyIter (.ref s.heap.objs.size)) (fun it s₂ => ∃ I fp wr n P St bt, it = .ref I ∧ Walks c.prog c.w A.in1 I fp wr n P St ∧ St 0 s₂.heap ∧ (∀ b ∈ fp, b < s₂.heap.objs.size) ∧ 0 < n ∧ CmpOf c.prog c.w A.in1 op P bt ∧
      ∀ v h' tk, P (argBest bt (n - 1)) v → (∀ b o, b ∉ wr → s₂.heap.get? b = some o → h'.get? b = some o) → Q v { s₂ with heap := h', toks := tk }) E
      { s with heap := s.heap.push { cls := .type "tuple", data := .seq #[va, vb, vd] } } := by
  have hT : (s.heap.push { cls := .type "tuple", data := .seq #[va, vb, vd] }).IsTuple s.heap.objs.size #[va, vb, vd] := ⟨_, Heap.get?_push_size _ rfl, rfl, 0, rfl⟩
  have hsz : (s.heap.push { cls := .type "tuple", data := .seq #[va, vb, vd] }).objs.size = s.heap.objs.size + 1 := Heap.size_push ..
  refine wpAny_pyIter_tuple hT ?_
  refine ⟨_, [_, s.heap.objs.size], [_], _, _, _, _, rfl, Walks.tuple (A := A.in1) hh _ s.heap.objs.size (by rw [hsz]; exact Nat.ne_of_lt (Nat.lt_succ_self _)) #[va, vb, vd],
    ⟨⟨_, Heap.get?_push_size _ rfl, rfl, rfl⟩, hT.push _⟩, fun d hd => ?_, Nat.succ_pos _, hc _, fun v h' tk hP hk => ?_⟩
  · show d < ((s.heap.push _).push _).objs.size
    rw [Heap.size_push, hsz]
    rcases List.mem_cons.mp hd with rfl | hd
    · rw [hsz]; exact Nat.lt_succ_self _
    · rw [List.mem_singleton.mp hd]
      exact Nat.lt_succ_of_lt (Nat.lt_succ_self _)
  · refine hq v h' tk (fun d o e => ?_) hP
    refine hk d o (fun hm => ?_) (Heap.get?_push_of_some _ (Heap.get?_push_of_some _ e))
    have e1 := List.mem_singleton.mp hm
    have := Heap.lt_size e
    rw [e1, hsz] at this
    exact Nat.lt_irrefl _ (Nat.lt_of_succ_lt this)

theorem flts3 {h : Heap} {Z : Addr → Prop} {a b d : UInt64} {vs : List Value} (r : RelL h Z [.flt a, .flt b, .flt d] vs) : ∃ t u v, vs = [.float a t, .float b u, .float d v] := by
  obtain ⟨v, u, w, rfl, r1, r2, r3⟩ := r.is3
  cases r1; cases r2; cases r3
  exact ⟨_, _, _, rfl⟩
noncomputable abbrev gtF (a b : UInt64) : Bool := Float64.cmp a b == some .gt
noncomputable abbrev ltF (a b : UInt64) : Bool := Float64.cmp a b == some .lt
theorem cmp3 {a b d : UInt64} {t u v : Tok} {op : CmpOp} {f : UInt64 → UInt64 → Bool} (hf : ∀ (A : Around) (s : Shared) (Q : Value → Shared → Prop) (E : Value → Shared → Prop) (x y : UInt64) (t u : Tok), Q (.bool (f x y)) s → wpAny c.M A (richCompare op (.float x t) (.float y u)) Q E s) (A : Around) :
    CmpOf c.prog c.w A op (fun i v' => (#[.float a t, .float b u, .float d v] : Array Value)[i]? = some v') (fun i j => f ([a, b, d].getD i 0) ([a, b, d].getD j 0)) := by
  have at_ : ∀ (i : Nat) (v' : Value), (#[.float a t, .float b u, .float d v] : Array Value)[i]? = some v' → ∃ t', v' = Value.float ([a, b, d].getD i 0) t' := fun i v' h => by
    match i, h with
    | 0, h => exact ⟨t, by simpa using h.symm⟩
    | 1, h => exact ⟨u, by simpa using h.symm⟩
    | 2, h => exact ⟨v, by simpa using h.symm⟩
    | _ + 3, h => simp at h
  intro i j vi vj s Q E hi hj hQ
  obtain ⟨t1, rfl⟩ := at_ i vi hi
  obtain ⟨t2, rfl⟩ := at_ j vj hj
  exact hf A s Q E _ _ _ _ hQ
theorem CallV.max3F {a b d : UInt64} : CallV c n (.builtin "max") [.flt a, .flt b, .flt d] (.flt (pick3 gtF a b d)) := by
  intro A s Z vs g bs z r Q E h
  obtain ⟨t, u, v, rfl⟩ := flts3 r
  refine call_max_three (three_walk g.h (cmp3 (f := gtF) fun A s Q E x y t u q => AutoFloatOps.gt_0 q) fun v' h' tk k e => ?_)
  have e1 : argBest (fun i j => gtF ([a, b, d].getD i 0) ([a, b, d].getD j 0)) 2 < 3 := Nat.lt_succ_of_le (argBest_le _ _)
  have e2 := best3 gtF a b d (fun i => [a, b, d].getD i 0) rfl rfl rfl
  have : ∃ t', v' = .float (pick3 gtF a b d) t' := by
    rw [← e2]
    generalize argBest (fun i j => gtF ([a, b, d].getD i 0) ([a, b, d].getD j 0)) 2 = m at e e1
    match m, e, e1 with
    | 0, e, _ => exact ⟨t, by simpa using e.symm⟩
    | 1, e, _ => exact ⟨u, by simpa using e.symm⟩
    | 2, e, _ => exact ⟨v, by simpa using e.symm⟩
  obtain ⟨t', rfl⟩ := this
  exact h _ h' tk k (.flt _ _)
theorem CallV.min3F {a b d : UInt64} : CallV c n (.builtin "min") [.flt a, .flt b, .flt d] (.flt (pick3 ltF a b d)) := by
  intro A s Z vs g bs z r Q E h
  obtain ⟨t, u, v, rfl⟩ := flts3 r
  refine call_min_three (three_walk g.h (cmp3 (f := ltF) fun A s Q E x y t u q => AutoFloatOps.lt_0 q) fun v' h' tk k e => ?_)
  have e1 : argBest (fun i j => ltF ([a, b, d].getD i 0) ([a, b, d].getD j 0)) 2 < 3 := Nat.lt_succ_of_le (argBest_le _ _)
  have e2 := best3 ltF a b d (fun i => [a, b, d].getD i 0) rfl rfl rfl
  have : ∃ t', v' = .float (pick3 ltF a b d) t' := by
    rw [← e2]
    generalize argBest (fun i j => ltF ([a, b, d].getD i 0) ([a, b, d].getD j 0)) 2 = m at e e1
    match m, e, e1 with
    | 0, e, _ => exact ⟨t, by simpa using e.symm⟩
    | 1, e, _ => exact ⟨u, by simpa using e.symm⟩
    | 2, e, _ => exact ⟨v, by simpa using e.symm⟩
  obtain ⟨t', rfl⟩ := this
  exact h _ h' tk k (.flt _ _)
theorem CallV.max3 {a b d : Int} : CallV c n (.builtin "max") [.int a, .int b, .int d] (.int (if b > a then (if d > b then d else b) else (if d > a then d else a))) := by
  intro A s Z vs g bs z r Q E h
  obtain ⟨v, u, w, rfl, r1, r2, r3⟩ := r.is3
  cases r1; cases r2; cases r3
  refine max_three_ints g.h fun h' tk k => ?_
  by_cases h1 : b > a <;> by_cases h2 : d > b <;> by_cases h3 : d > a <;> simp only [h1, h2, h3, if_true, if_false] at h ⊢ <;> exact h _ h' tk k (.int _ _)
end Mine
end

/-! PlV -/
section
set_option maxRecDepth 100000
set_option maxHeartbeats 1000000
namespace Mine
open PySem PySem.W PyProof.Rows PySem.Calls PySem.Spec
variable {c : Cx} {n : Nat} {env : Env} {W : List Str} {ρ : PEnv} {h₀ h : Heap} {Z Z₀ : Addr → Prop}

/-! A list of the frame's own, made by an expression that needs no name; an item set. -/
theorem setItem_plainK {A : Around} {s : Shared} {E : Value → Shared → Prop} {l : Addr} {items : Array Value} {k : Int} {t : Tok} {v : Value} {Q : Unit → Shared → Prop} (hl : s.heap.PlainList l items) (h0 : 0 ≤ k) (hj : k < items.size) (hb : k < 2 ^ 63)
    (hQ : ∀ h', h'.PlainList l (items.setIfInBounds k.toNat v) → Heap.SameBut l s.heap h' → Q () { s with heap := h' }) : wpAny c.M A (setItem (.ref l) (.int k t) v) Q E s := by
  have hL := hl.isList
  obtain ⟨e, ho⟩ := hl
  unfold setItem
  try with_reducible refine wpAny_holding ?_
  refine wpAny_bind (wpAny_sequenceKey hL.typeIs (by decide) ?_)
  refine wpAny_bind (wpAny_callSpecial?_slot (name := Str.ofString "__setitem__") hL.typeIs slot_list_setitem
    (wpAny_call_entry slot_list_setitem hL.typeIs entry_list_setitem ?_ (args_list_setitem _ _ _)))
  show wpAny _ _ (Builtin.List.listSubscript? (.int k t) >>= _) _ _ s
  refine wpAny_bind (wpAny_listSubscript_int (fitsIndex_of h0 hb) ?_)
  clear hb
  obtain ⟨j, rfl⟩ := Int.eq_ofNat_of_zero_le h0
  have hj : j < items.size := by omega
  have hx : items[j]? = some items[j] := Array.getElem?_eq_getElem hj
  show wpAny _ _ ((seqItemAt l j >>= fun r => pure (r.map (j, ·))) >>= _) _ _ s
  refine wpAny_bind (wpAny_bind (wpAny_seqItemAt ho rfl (wpAny_pure ?_)))
  rw [hx]
  show wpAny _ _ (setSeqItemAt l j v >>= _) _ _ s
  have fin : (s.heap.update l (Obj.mapSeq (·.setIfInBounds j v))).PlainList l (items.setIfInBounds j v) := ⟨_, get?_update_seq (c := "list") ho (·.setIfInBounds j v)⟩
  refine wpAny_bind (wpAny_setSeqItemAt ho rfl ?_)
  first
    | exact wpAny_bind (wpAny_pure (wpAny_pure ⟨.none, rfl, wpAny_pure (hQ _ fin (Heap.SameBut.update ..))⟩))
    | exact wpAny_pure ⟨.none, rfl, wpAny_pure (hQ _ fin (Heap.SameBut.update ..))⟩
theorem setItem_plain {A : Around} {s : Shared} {E : Value → Shared → Prop} {l : Addr} {items : Array Value} {j : Nat} {t : Tok} {v : Value} {Q : Unit → Shared → Prop} (hl : s.heap.PlainList l items) (hj : j < items.size) (hb : j < 1000000)
    (hQ : ∀ h', h'.PlainList l (items.setIfInBounds j v) → Heap.SameBut l s.heap h' → Q () { s with heap := h' }) : wpAny c.M A (setItem (.ref l) (.int (j : Int) t) v) Q E s :=
  setItem_plainK hl (Int.natCast_nonneg j) (by omega) (by omega) hQ

theorem relL_bools {h : Heap} {Z Z' : Addr → Prop} {bs : List Bool} : ∀ {vs : List Value}, RelL h Z (bs.map .bool) vs → vs = bs.map Value.bool := by
  induction bs with
  | nil => intro vs r; exact RelL.nilInv r
  | cons b bs ih =>
    intro vs r
    obtain ⟨v, us, rfl, a, r'⟩ := RelL.inv (p := .bool b) (ps := bs.map .bool) r
    rw [Rel.boolInv a, ih r']; rfl
theorem bools_relL {h : Heap} {Z : Addr → Prop} : ∀ {bs : List Bool}, RelL h Z (bs.map .bool) (bs.map Value.bool)
  | [] => .nil
  | b :: bs => .cons (.bool b) bools_relL

theorem St.zoneAdd (S : St c env W h₀ Z₀ h Z ρ) {a : Addr} {H : Heap} (k : Keep h H) (ha : h.get? a = none) (he : ∃ o, H.get? a = some o) : St c env W h₀ Z₀ H (fun b => Z b ∨ b = a) ρ := by
  have S' := S.keeps k
  have zr : ∀ {p v}, Rel h Z p v → Rel H (fun b => Z b ∨ b = a) p v := fun r => (r.zone (Z' := fun b => Z b ∨ b = a) fun b o e q => by
    rcases q with q | rfl
    · exact q
    · rw [ha] at e; cases e).keep k
  have zrL : ∀ {p v}, RelL h Z p v → RelL H (fun b => Z b ∨ b = a) p v := fun r => (r.zone (Z' := fun b => Z b ∨ b = a) fun b o e q => by
    rcases q with q | rfl
    · exact q
    · rw [ha] at e; cases e).keep k
  exact { S' with
    fr := ⟨S.fr.ok, fun x p e q => let ⟨v, e1, e2⟩ := S.fr.vars x p e q; ⟨v, e1.keep k, zr e2⟩⟩
    wr := { S'.wr with hot := .inl S.wr.hot, cell := fun x hx hk => let ⟨b, v, e1, e2, e3, e4⟩ := S'.wr.cell x hx hk; ⟨b, v, e1, e2, e3, .inl e4⟩ }
    z := fun b q => by
      rcases q with q | rfl
      · exact S'.z b q
      · exact he
    z0 := fun b q => .inl (S.z0 b q)
    hots := fun x l e => let ⟨b, vs, e1, e2, e3, ⟨m, e4⟩, e5⟩ := S.hots x l e; ⟨b, vs, e1.keep k, .inl e2, e3, ⟨m, k _ _ e4⟩, zrL e5⟩ }

theorem EX1.hotBools {x : Str} {xp pos : Pos} {e : Expr} {bs : List Bool} {Φ : PF → PEnv → Prop} (he : EV c n env [] e (.list (bs.map .bool))) (hx : env.kindOf x = some .local) (h : Φ .next (ρ.set x (.hot (bs.map .bool))))
    (hs : swapsWith e (some (.Name x xp)) pos.line env = pure false := by rfl) : EX1 c n env W (.Assign [.Name x xp] e pos) ρ Φ := by
  intro A s Z Z₀ h₀ Q E g S hq
  let Z1 : Addr → Prop := fun a => ∃ o, s.heap.get? a = some o
  refine wpAny_Assign_Name (he A s Z1 g S.baseNow ⟨S.fr.ok, fun x p e => by simp at e⟩ (fun a q => q) _ _ fun v h1 t1 k1 r1 => ?_) hs
  cases r1 with
  | list za la ra =>
    rename_i a vs
    have hv := relL_bools (Z' := Z1) ra
    subst hv
    have ha : s.heap.get? a = none := by
      cases q : s.heap.get? a with
      | none => rfl
      | some o => exact absurd ⟨o, q⟩ za
    have hnew : h₀.get? a = none := by
      cases q : h₀.get? a with
      | none => rfl
      | some o => rw [S.keep _ _ q] at ha; cases ha
    obtain ⟨m, hm⟩ := id la
    have S1 := S.zoneAdd k1 ha ⟨_, hm⟩
    obtain ⟨mm, hn⟩ := S1.wr.ns
    refine wpAny_storeName_local hx hn (fun h' hn' hs => ?_) (by rw [S.fr.ok.kind]; rfl)
    obtain ⟨S', kb⟩ := S1.storeL hx hn hn' hs (p := .hot (bs.map .bool)) (.inr ⟨_, a, bs.map Value.bool, rfl, rfl, .inr rfl, hnew, la, bools_relL⟩)
    refine hq _ _ _ _ h' _ h .next S' ?_ fun b q => ?_
    · exact (KeepBut.of k1).trans' kb fun b q => by
        rcases q with q | rfl
        · exact .inl q
        · exact .inr ha
    · rcases q with q | rfl
      · exact .inl q
      · exact .inr ha

theorem EX1.setHot {x : Str} {xp sp pos : Pos} {i e : Expr} {bs : List Bool} {k : Nat} {b : Bool} {Φ : PF → PEnv → Prop} (ρc : PEnv) (hl : ρ.lookup x = some (.hot (bs.map .bool))) (he : EV c n env ρ e (.bool b)) (hi : EV c n env ρ i (.int (k : Int))) (hk : k < bs.length) (hb : k < 1000000) (hc : Sub ρc ρ) (nh : NoHot ρc)
    (h : Φ .next (ρc.set x (.hot ((bs.set k b).map .bool)))) (hd : (x == ("__debug__" : Str)) = false := by decide) (hxk : env.kindOf x = some .local := by rfl)
    (hs : swapsWith e (some (.Subscript (.Name x xp) i sp)) pos.line env = pure false := by rfl) : EX1 c n env W (.Assign [.Subscript (.Name x xp) i sp] e pos) ρ Φ := by
  intro A s Z Z₀ h₀ Q E g S hq
  rw [exec_Assign_Subscript _ _ _ _ _ hs]
  refine wpAny_bind (wpAny_standAt (wpAny_bind (he A s Z g S.baseNow S.fr S.z _ _ fun v h1 t1 k1 r1 => ?_)))
  cases r1
  have S1 := S.keeps k1
  obtain ⟨a, vs, e1, e2, e3, e4, e5⟩ := S1.hots x _ hl
  have hv := relL_bools (Z' := Z) e5
  subst hv
  obtain ⟨m, hm, hmx⟩ : ∃ m, h1.Ns env.locals m ∧ m x = some (.ref a) := by
    rcases e1 with ⟨_, m, n', e⟩ | ⟨hk, _⟩
    · exact ⟨m, n', e⟩
    · rw [hxk] at hk; rcases hk with hk | hk <;> cases hk
  rw [assign_Subscript]
  refine wpAny_bind (wpAny_bind (wpAny_holding (wpAny_Name (wpAny_loadName_local S.fr.ok.kind hxk hm hmx ?_) hd)))
  refine wpAny_bind (wpAny_holding (hi A { s with heap := h1, toks := t1 } Z g S1.baseNow S1.fr S1.z _ _ fun vi h2 t2 k2 r2 => ?_))
  cases r2 with
  | int _ ti =>
    have S2 := S1.keeps k2
    have e4k : h2.PlainList a (bs.map Value.bool).toArray := let ⟨m, e⟩ := e4; ⟨m, k2 _ _ e⟩
    have e1k := e1.keep k2
    refine wpAny_bind (wpAny_standAt (wpAny_bind (wpAny_holding (setItem_plain (s := { s with heap := h2, toks := t2 }) e4k (by simpa using hk) hb fun h3 hl3 hs3 => ?_))))
    refine wpAny_release ?_
    obtain ⟨S3, kb3⟩ := (S2.weak hc).changed e4k hl3 hs3 e2 e3 nh
    have e1' : Holds env h3 x (.ref a) := by
      rcases e1k with ⟨q1, m', n', e⟩ | ⟨q1, b', q2, q3⟩
      · exact .inl ⟨q1, m', n'.sameBut hs3 (Ne.symm (Ns.ne_list n' e4k)), e⟩
      · exact .inr ⟨q1, b', q2, q3.sameBut hs3 (Ne.symm (IsCell.ne_list q3 e4k))⟩
    have hl3' : h3.PlainList a ((bs.set k b).map Value.bool).toArray := by
      have : ((bs.set k b).map Value.bool).toArray = (bs.map Value.bool).toArray.setIfInBounds k (.bool b) := by
        rw [List.map_set]; simp
      rw [this]; exact hl3
    have S4 := S3.addHot (x := x) e1' e2 e3 hl3' (bools_relL (bs := bs.set k b))
    exact wpAny_pure (hq _ _ _ Z h3 t2 h .next S4 ((KeepBut.of (k1.trans k2)).trans' kb3 fun _ z => .inl z) fun _ z => .inl z)

theorem EX1.tup3 {x y w : Str} {xp yp wp tp pos : Pos} {k : Nat} {e : Expr} {p q r : PV} {Φ : PF → PEnv → Prop} (he : EV c n env ρ e (.tup [p, q, r])) (hx : Stored env W x) (hy : Stored env W y) (hw' : Stored env W w)
    (h : Φ .next (((ρ.set x p).set y q).set w r))
    (hs : swapsWithSole [.Tuple [.Name x xp, .Name y yp, .Name w wp] k tp] e pos.line env = pure false := by rfl) (hw : swappedStores [.Tuple [.Name x xp, .Name y yp, .Name w wp] k tp] e env = pure none := by rfl) :
    EX1 c n env W (.Assign [.Tuple [.Name x xp, .Name y yp, .Name w wp] k tp] e pos) ρ Φ := by
  intro A s Z Z₀ h₀ Q E g S hq
  refine Assign_Tuple (he A s Z g S.baseNow S.fr S.z _ _ fun v h1 t1 k1 r1 => ?_) hs hw
  cases r1 with
  | tup z l r =>
    obtain ⟨v1, v2, v3, rfl, rp, rq, rr⟩ := r.is3
    refine wpAny_assign_Tuple g.h l rfl rfl fun h2 he2 => ?_
    have k2 : Keep h1 h2 := fun b o e => he2 b o (Nat.ne_of_lt (Heap.lt_size e)) e
    have S2 := (S.keeps k1).keeps k2
    show wpAny _ A (assignInOrder [PySem.assign (.Name x xp) env, PySem.assign (.Name y yp) env, PySem.assign (.Name w wp) env] [_, _, _]) _ _ _
    unfold assignInOrder
    refine wpAny_bind (wpAny_holding (wpAny_assign_Name ?_))
    refine St.store (s := { s with heap := h2, toks := t1 }) S2 hx (rp.keep k2) rp.cold fun h3 t3 S3 kb3 _ => ?_
    unfold assignInOrder
    refine wpAny_bind (wpAny_holding (wpAny_assign_Name ?_))
    refine St.store (s := { s with heap := h3, toks := t3 }) S3 hy ((rq.keep k2).but kb3) rq.cold fun h4 t4 S4 kb4 _ => ?_
    unfold assignInOrder
    refine wpAny_bind (wpAny_holding (wpAny_assign_Name ?_))
    refine St.store (s := { s with heap := h4, toks := t4 }) S4 hw' (((rr.keep k2).but kb3).but kb4) rr.cold fun h5 t5 S5 kb5 _ => ?_
    unfold assignInOrder
    refine wpAny_pure (hq _ _ _ Z h5 t5 h .next S5 ?_ fun _ z => .inl z)
    exact (((KeepBut.of (k1.trans k2)).trans' kb3 fun _ z => .inl z).trans' kb4 fun _ z => .inl z).trans' kb5 fun _ z => .inl z
end Mine
end

/-! PlW -/
section
set_option maxRecDepth 100000
namespace Mine
open PySem PySem.W PyProof.Rows PySem.Calls PySem.Spec
variable {c : Cx} {n : Nat}
/-! A call of a def as a code of its own. -/
theorem CODE.of {f : Str} {params : Arguments} {body : List Stmt} {scope : Scope} {names W : List Str} {ps : List PV} {p : PV} (hf : HasFn c f params body scope)
    (hb : ∀ pm code doc vs, vs.length = names.length → bindArgs (docDef f params body scope pm code doc) ⟨vs, []⟩ = pure (names.zip vs)) (hl : ps.length = names.length) (hnd : names.Nodup)
    (hnk : ∀ k, ∀ x ∈ names, scope.names.lookup x = some .local ∨ (scope.names.lookup x = some .cell ∧ ((cellsFrom k scope.names []).lookup x).isSome = true))
    (hW : ∀ k, ∀ x ∈ W, scope.names.lookup x = some .cell → ((cellsFrom k scope.names []).lookup x).isSome = true)
    (hps : ∀ p ∈ ps, p.isHot = false)
    (h : ∀ L a cd, EX c n (fnEnv f scope L a cd) W body (names.zip ps) (fun fl _ => fl = .ret p))
    (hco : scope.isCoroutine = false := by rfl) (hgen : scope.isGenerator = false := by rfl) (hk : scope.kind = .function := by rfl) : ∀ a, c.mg f = some (.ref a) → ∀ (A : Around) (s : Shared) (Z : Addr → Prop) (vs : List Value) (R : Result → Shared → Prop), Good (n + 1) A → c.Base s.heap → ZOk Z s.heap → RelL s.heap Z ps vs →
      (∀ v h' tk, Keep s.heap h' → Rel h' Z p v → R (.ok (.ret v)) { s with heap := h', toks := tk }) → codeAny c.M A (.call (.ref a) ⟨vs, []⟩) R s := by
  intro a ha A s Z vs R g b z r hq
  obtain ⟨d, hd, rfl, rfl, rfl, rfl⟩ := hf.here
  obtain ⟨a', o, pm, code, doc, h1, h2, h3, h4⟩ := b.fn d hd
  have ea : a' = a := by rw [ha] at h1; cases h1; rfl
  subst ea
  have hvl : vs.length = names.length := by rw [← r.length]; exact hl
  have hkeys : ((names.zip vs).map (·.1)) = names := by rw [List.map_fst_zip]; omega
  refine (codeAny_call_cells (fd := docDef d.name d.params d.body d.scope pm code doc) (body := d.body) (binds := names.zip vs) ?_ h2 h3 b.nolimit h4 rfl (hb pm code doc vs hvl) rfl ?_ ?_ hco hgen hk)
  · have := g.depth
    show A.depth < 1000
    omega
  · intro x hx
    exact hnk _ x.1 (zip_mem_left (v := x.2) hx)
  · intro s₁ I
    have eE : callEnvC (docDef d.name d.params d.body d.scope pm code doc) s.heap.objs.size a' = fnEnv d.name d.scope s.heap.objs.size a' code := rfl
    rw [eE] at I ⊢
    obtain ⟨H, tk, rfl, hkeep⟩ := I.done
    have Icell := I.cell
    have Iab := I.above
    have Iap := I.apart
    have Ins := I.toInCall.ns
    dsimp only at Ins Icell Iap Iab
    have fresh : ∀ x, s.heap.objs.size ≤ x → s.heap.get? x = none := fun x hx => by
      cases e : s.heap.get? x with
      | none => rfl
      | some o => exact absurd (Heap.lt_size e) (Nat.not_lt.mpr hx)
    have hbs : ((names.zip vs).map (·.1)).Nodup := hkeys.symm ▸ hnd
    let Z' : Addr → Prop := fun b => Z b ∨ b = s.heap.objs.size ∨ ∃ x, (cellsFrom (s.heap.objs.size + 1) d.scope.names []).lookup x = some b
    have rz : RelL H Z' ps vs := (r.zone (Z' := Z') fun b o e q => by
      rcases q with q | rfl | ⟨x, q⟩
      · exact q
      · exact absurd (Heap.lt_size e) (Nat.lt_irrefl _)
      · exact absurd (Heap.lt_size e) (Nat.not_lt.mpr (Nat.le_of_lt (Iab x b (lookup_mem q))))).keep hkeep
    have S : St c (fnEnv d.name d.scope s.heap.objs.size a' code) W s.heap Z H Z' (names.zip ps) := by
      refine ⟨b, hkeep, ⟨⟨hk, rfl, rfl, fun x y q e1 e2 => name_of_addr Iap (lookup_mem e1) (lookup_mem e2)⟩, fun x q e hq => ?_⟩, ⟨⟨_, Ins⟩, fresh _ (Nat.le_refl _), .inr (.inl rfl), fun x hx hxc => ?_, fun x y q e1 e2 => name_of_addr Iap (lookup_mem e1) (lookup_mem e2)⟩, fun q hz => ?_, fun q hz => .inl hz, z, fun x l e => ?_⟩
      · obtain ⟨v, e1, e2⟩ := zip_lookup (names := names) rz e
        refine ⟨v, ?_, e2⟩
        have hxn : x ∈ names := zip_mem_left (lookup_mem e1)
        rcases hnk (s.heap.objs.size + 1) x hxn with hl | ⟨hc, hcs⟩
        · exact .inl ⟨hl, _, Ins, by rw [bindL_at (kindOf := (fnEnv d.name d.scope s.heap.objs.size a' code).kindOf) hl _ _ hbs, e1]; rfl⟩
        · obtain ⟨q, hq'⟩ := Option.isSome_iff_exists.mp hcs
          have := Icell x q hq'
          rw [bindC_at (kindOf := (fnEnv d.name d.scope s.heap.objs.size a' code).kindOf) (by show d.scope.names.lookup x ≠ some .local; rw [hc]; decide) _ _ hbs, e1] at this
          exact .inr ⟨.inl hc, q, hq', this⟩
      · obtain ⟨q, hq'⟩ := Option.isSome_iff_exists.mp (hW (s.heap.objs.size + 1) x hx hxc)
        exact ⟨q, _, hq', Icell x q hq', fresh q (Nat.le_of_lt (Iab x q (lookup_mem hq'))), .inr (.inr ⟨x, hq'⟩)⟩
      · rcases hz with hz | rfl | ⟨x, hz⟩
        · obtain ⟨o, e⟩ := z q hz; exact ⟨o, hkeep _ _ e⟩
        · obtain ⟨o, _, _, e, _⟩ := Ins; exact ⟨o, e⟩
        · obtain ⟨o, e, _⟩ := Icell x q hz; exact ⟨o, e⟩
      · have := hps _ (List.of_mem_zip (lookup_mem e)).2
        cases this
    have gA : Good n (A.deeper (fnEnv d.name d.scope s.heap.objs.size a' code)) := ⟨g.handled, by have := g.depth; show A.depth + 1 + n < 900; omega, by have := g.units; show A.units + 3 + 3 * n < 1000; omega⟩
    refine h s.heap.objs.size a' code _ _ Z' Z s.heap _ _ gA S fun fl f ρ' Z'' h' tk' hf rf S' kb zn => ?_
    subst hf
    cases rf with
    | ret r' => exact hq _ h' tk' S'.keep (r'.zone fun q o e z => S'.z0 q z)
end Mine
end

section
set_option maxRecDepth 100000
namespace Mine
variable {c : Cx} {n : Nat}
/-! Fns -/
set_option maxRecDepth 100000
open PySem PySem.W PyProof.Rows PySem.Calls PySem.Spec

structure FnAt where
  params : Arguments
  body : List Stmt
  scope : Scope

noncomputable def fnAt (i : Nat) : FnAt := match PySem.Challenge.pw_tr0005_01.main.body[i]? with
  | some (.FunctionDef _ a b _ _ _ sc _ _ _) => ⟨a, b, sc⟩
  | _ => ⟨⟨[], [], none, [], [], none, []⟩, [], { kind := .function, names := [], isGenerator := false, isCoroutine := false }⟩

/-! FnA -/
set_option maxRecDepth 100000
open PySem PySem.W PyProof.Rows PySem.Calls PySem.Spec
noncomputable abbrev S0 (s : String) : Str := Str.ofString s

/-- what the run's names mean -/
structure Wd (c : Cx) : Prop where
  sum : c.mg (S0 "sum") = none
  range : c.mg (S0 "range") = none
  len : c.mg (S0 "len") = none
  zip : c.mg (S0 "zip") = none
  max : c.mg (S0 "max") = none
  min : c.mg (S0 "min") = none
  round : c.mg (S0 "round") = none
  sorted : c.mg (S0 "sorted") = none
  ref : ∀ f, f ∈ (recsOf c.p).map (·.name) → ∃ a, c.mg f = some (.ref a)
  bag : HasFn c (S0 "_law_bag") (fnAt 8).params (fnAt 8).body (fnAt 8).scope
  rainbow : HasFn c (S0 "_law_rainbow") (fnAt 9).params (fnAt 9).body (fnAt 9).scope
  greedy : HasFn c (S0 "_law_greedy") (fnAt 10).params (fnAt 10).body (fnAt 10).scope
  hangs : HasFn c (S0 "_law_hangs") (fnAt 11).params (fnAt 11).body (fnAt 11).scope
  heaviest : HasFn c (S0 "_law_heaviest") (fnAt 12).params (fnAt 12).body (fnAt 12).scope
  no_ring : HasFn c (S0 "_law_no_ring") (fnAt 13).params (fnAt 13).body (fnAt 13).scope
  unlike : HasFn c (S0 "_law_unlike") (fnAt 14).params (fnAt 14).body (fnAt 14).scope
  paintings : HasFn c (S0 "_law_paintings") (fnAt 15).params (fnAt 15).body (fnAt 15).scope
  ppv : HasFn c (S0 "_post_parse_validation") (fnAt 3).params (fnAt 3).body (fnAt 3).scope
  strxfrm : HasFn c (S0 "_strxfrm") (fnAt 5).params (fnAt 5).body (fnAt 5).scope
  localename : HasFn c (S0 "_build_localename") (fnAt 6).params (fnAt 6).body (fnAt 6).scope
  hsv : HasFn c (S0 "rgb_to_hsv") (fnAt 1).params (fnAt 1).body (fnAt 1).scope

theorem HasFn.mem {f : Str} {params : Arguments} {body : List Stmt} {scope : Scope} (h : HasFn c f params body scope) : f ∈ (recsOf c.p).map (·.name) := by
  obtain ⟨d, hd, h1, _⟩ := h.here
  exact List.mem_map.mpr ⟨d, hd, h1⟩

/-- a def that is called by its name -/
theorem EV.callD {env : Env} {ρ : PEnv} {f : Str} {params : Arguments} {body : List Stmt} {scope : Scope} {fp pos : Pos} {args : List Expr} {ps : List PV} {p : PV} (w : Wd c) (hf : HasFn c f params body scope) (ha : EVL c n env ρ args ps) (hc : CALL c n f ps p)
    (hx : env.kindOf f = some .globalImplicit) 
    (hd : (f == ("__debug__" : Str)) = false := by decide) (hs : (args.all fun e => !isStarred e) = true := by rfl) : EV c n env ρ (.Call (.Name f fp) args [] pos) p := by
  obtain ⟨a, hm⟩ := w.ref f hf.mem
  exact EV.callF ha hc hx hm hf.mem hd hs

local macro_rules | `(tactic| walk_at "kn") => `(tactic| first
  | exact True.intro
  | (refine ⟨rfl, rfl, rfl, ?_, ?_, rfl, rfl, fun _ => rfl, ?_⟩ <;> first | exact Or.inl rfl | exact Or.inr rfl | walk_at "kn"))
local macro_rules | `(tactic| walk_at "comp") => `(tactic|
  (refine CompOk.of (by rfl) ?_ rfl (by rfl) ?_ <;> first | (intro _; first | exact True.intro | exact ⟨rfl, True.intro⟩ | exact ⟨rfl, rfl, True.intro⟩) | walk_at "kn"))
local macro_rules | `(tactic| walk_at "tg") => `(tactic| refine ⟨rfl, ?_⟩ <;> first | exact Or.inl rfl | exact Or.inr ⟨rfl, List.Mem.head _⟩)

noncomputable abbrev codeOf (row : List Int) (bag : List Int) : Int := (bag.map fun q => (4 : Int) ^ (row.getD q.toNat 0).toNat).sum
noncomputable def unlikeN (row : List Int) (ended : List (List Int)) (rb : List Bool) : Bool :=
  ended.all fun bag => rb.getD (codeOf row bag).toNat false

structure UnlikeOk (row : List Int) (ended : List (List Int)) (rb : List Bool) : Prop where
  rows : ∀ x ∈ row, 0 ≤ x ∧ x < 3
  rlen : row.length ≤ 5
  idx : ∀ b ∈ ended, ∀ q ∈ b, 0 ≤ q ∧ q < row.length
  elen : ∀ b ∈ ended, b.length ≤ 3
  rbl : rb.length = 64

theorem pow_bound (k : Int) (h : 0 ≤ k ∧ k < 3) : (1 : Int) ≤ 4 ^ k.toNat ∧ (4 : Int) ^ k.toNat ≤ 16 := by
  have : k = 0 ∨ k = 1 ∨ k = 2 := by omega
  rcases this with rfl | rfl | rfl <;> decide
theorem codeOf_bound {row bag : List Int} (hr : ∀ x ∈ row, 0 ≤ x ∧ x < 3) (hb : bag.length ≤ 3) : 0 ≤ codeOf row bag ∧ codeOf row bag < 64 := by
  have h1 : ∀ q : Int, (1 : Int) ≤ 4 ^ (row.getD q.toNat 0).toNat ∧ (4 : Int) ^ (row.getD q.toNat 0).toNat ≤ 16 := fun q => by
    refine pow_bound _ ?_
    rw [List.getD_eq_getElem?_getD]
    cases h : row[q.toNat]? with
    | none => simp
    | some x => simpa using hr x (List.mem_of_getElem? h)
  have h2 : ∀ l : List Int, 0 ≤ codeOf row l ∧ codeOf row l ≤ 16 * l.length := by
    intro l
    induction l with
    | nil => simp [codeOf]
    | cons q l ih =>
      have := h1 q
      simp only [codeOf, List.map_cons, List.sum_cons, List.length_cons] at ih ⊢
      omega
  have := h2 bag
  omega

theorem unlike_call (w : Wd c) {row : List Int} {ended : List (List Int)} {rb : List Bool} (ok : UnlikeOk row ended rb) :
    CALL c (n + 1) (S0 "_law_unlike") [zl row, .list (ended.map zl), .list (rb.map .bool)] (.bool (unlikeN row ended rb)) := by
  refine CALL.of (names := [S0 "row", S0 "ended", S0 "rainbow"]) (W := []) w.unlike ?_ rfl (by decide) ?_ ?_ ?_ ?_
  · intro pm code doc vs hv
    obtain ⟨a, b, d, rfl⟩ := len3 hv
    rfl
  · intro k x hx
    simp only [List.mem_cons, List.not_mem_nil, or_false] at hx
    rcases hx with rfl | rfl | rfl
    · exact .inr ⟨rfl, rfl⟩
    · exact .inl rfl
    · exact .inl rfl
  · intro k x hx; simp at hx
  · intro p hp
    simp only [List.mem_cons, List.not_mem_nil, or_false] at hp
    rcases hp with rfl | rfl | rfl <;> rfl
  intro L a cd
  refine EX.cons (EX1.forN (σ := Unit) ended zl (fun _ => [S0 "row", S0 "ended", S0 "rainbow"].zip [zl row, .list (ended.map zl), .list (rb.map .bool)]) (fun i _ => (ended.take i).all (fun bag => rb.getD (codeOf row bag).toNat false) = true) ()
    (IT.list (EV.name rfl)) (Or.inl rfl) rfl (fun _ _ e => e) ?_ ?_)
  · intro i bag st hb hall
    have hbm := List.mem_of_getElem? hb
    obtain ⟨c0, c1⟩ := codeOf_bound ok.rows (ok.elen bag hbm)
    refine EX.cons (EX1.ite (b := !(rb.getD (codeOf row bag).toNat false)) ?_ ?_ ?_)
    · refine TV.not (TV.plain (p := .bool _) (EV.sub (EV.name rfl) (EV.callB (p := .int (codeOf row bag)) (EVL.cons (EV.compA [(S0 "row", L + 1)] [(S0 "row", zl row)] [] bag .int inj_int .int (fun q => 4 ^ (row.getD q.toNat 0).toNat)
        (IT.list (EV.name rfl)) (by walk_at "comp") (by walk_at "tg") ?_ ?_) EVL.nil) (CallV.sum ?_ ?_) rfl w.sum rfl) (SubOK.list c0 (Int.lt_trans c1 (by decide)) ?_)) TruthOK.bool)
      · intro B q hq
        obtain ⟨q0, q1⟩ := ok.idx bag hbm q hq
        have hl : q.toNat < row.length := by omega
        have e : row[q.toNat]? = some (row.getD q.toNat 0) := by
          rw [List.getD_eq_getElem?_getD, List.getElem?_eq_getElem hl]; rfl
        have hx := ok.rows _ (List.mem_of_getElem? e)
        refine EV.bin (pb := .int (row.getD q.toNat 0)) EV.cint (EV.sub (EV.name rfl) (EV.name rfl) (SubOK.list q0 (by have := ok.rlen; omega) ?_)) (BinOK.pow hx.1 ?_)
        · rw [List.getElem?_map, e]; rfl
        · have : (Builtin.Int.intBits 4 : Int) ≤ 3 := by decide
          have h3 : (Builtin.Int.intBits 4 : Int) * row.getD q.toNat 0 ≤ 3 * 3 := Int.mul_le_mul this (by omega) hx.1 (by decide)
          exact Int.le_trans h3 (by decide)
      · have := ok.elen bag hbm; omega
      · intro x hx
        obtain ⟨q, hq, rfl⟩ := List.mem_map.mp hx
        have : (1 : Int) ≤ 4 ^ (row.getD q.toNat 0).toNat ∧ (4 : Int) ^ (row.getD q.toNat 0).toNat ≤ 16 := by
          refine pow_bound _ ?_
          rw [List.getD_eq_getElem?_getD]
          cases h : row[q.toNat]? with
          | none => simp
          | some x => simpa using ok.rows x (List.mem_of_getElem? h)
        omega
      · have := ok.elen bag hbm; rw [List.length_map]; omega
      · have hl : (codeOf row bag).toNat < rb.length := by rw [ok.rbl]; omega
        rw [List.getElem?_map, List.getElem?_eq_getElem hl, List.getD_eq_getElem?_getD, List.getElem?_eq_getElem hl]; rfl
    · intro hf
      refine EX.cons (EX1.ret EV.cbool ?_)
      show PF.ret _ = PF.ret _
      have : unlikeN row ended rb = false := by
        unfold unlikeN
        rw [Bool.eq_false_iff]
        intro h
        have := (List.all_eq_true.mp h) bag hbm
        rw [this] at hf; simp at hf
      rw [this]
    · intro hf
      refine EX.nil (EX.nil ?_)
      refine ⟨(), ?_, Sub.cons rfl (Sub.cons rfl (Sub.cons rfl Sub.nil))⟩
      rw [List.take_add_one, hb, List.all_append, hall]
      simpa using hf
  · intro st hall
    rw [List.take_length] at hall
    refine EX.cons (EX1.ret EV.cbool ?_)
    show PF.ret _ = PF.ret _
    unfold unlikeN
    rw [hall]

/-! FnB -/
set_option maxRecDepth 100000
open PySem PySem.W PyProof.Rows PySem.Calls PySem.Spec

/-- a bag that the law may build -/
structure BagOk (b : List Int) : Prop where
  ne : b ≠ []
  len : b.length ≤ 3
  rng : ∀ q ∈ b, 0 ≤ q ∧ q < 5
  last : ∀ q ∈ b, q ≤ b.getLastD 0

noncomputable def endedN (bags : List (List Int)) (p : Nat) : List (List Int) := bags.filter fun b => b.getLastD 0 == (p : Int)
noncomputable def grown (rows : List (List Int)) : List (List Int) := rows.flatMap fun row => (List.range 3).map fun (k : Nat) => row ++ [(k : Int)]
noncomputable def stepN (bags : List (List Int)) (rb : List Bool) (rows : List (List Int)) (p : Nat) : List (List Int) := (grown rows).filter fun row => unlikeN row (endedN bags p) rb
noncomputable def paintN (bags : List (List Int)) (rb : List Bool) : Nat := ((List.range 5).foldl (stepN bags rb) [[]]).length

structure RowsOk (i : Nat) (rows : List (List Int)) : Prop where
  len : ∀ r ∈ rows, r.length = i
  rng : ∀ r ∈ rows, ∀ x ∈ r, 0 ≤ x ∧ x < 3
  few : rows.length ≤ 3 ^ i

theorem RowsOk.grown {i : Nat} {rows : List (List Int)} (h : RowsOk i rows) : RowsOk (i + 1) (grown rows) := by
  refine ⟨?_, ?_, ?_⟩
  · intro r hr
    obtain ⟨r0, h0, hr⟩ := List.mem_flatMap.mp hr
    obtain ⟨k, hk, rfl⟩ := List.mem_map.mp hr
    rw [List.length_append, h.len r0 h0]; rfl
  · intro r hr x hx
    obtain ⟨r0, h0, hr⟩ := List.mem_flatMap.mp hr
    obtain ⟨k, hk, rfl⟩ := List.mem_map.mp hr
    rcases List.mem_append.mp hx with hx | hx
    · exact h.rng r0 h0 x hx
    · rw [List.mem_singleton.mp hx]
      have := List.mem_range.mp hk
      omega
  · have : ∀ l : List (List Int), (Mine.grown l).length = 3 * l.length := by
      intro l
      induction l with
      | nil => rfl
      | cons a l ih =>
        have e : (Mine.grown (a :: l)).length = 3 + (Mine.grown l).length := by simp [Mine.grown]
        rw [e, ih, List.length_cons]; omega
    rw [this, Nat.pow_succ]
    have := h.few
    omega
theorem RowsOk.filter {i : Nat} {rows : List (List Int)} (h : RowsOk i rows) (f : List Int → Bool) : RowsOk i (rows.filter f) :=
  ⟨fun r hr => h.len r ((List.mem_filter.mp hr).1), fun r hr => h.rng r ((List.mem_filter.mp hr).1), Nat.le_trans (List.length_filter_le _ _) h.few⟩

theorem paintings_call (w : Wd c) {bags : List (List Int)} {rb : List Bool} (ok : ∀ b ∈ bags, BagOk b) (hb : bags.length ≤ 4) (hrb : rb.length = 64) :
    CALL c (n + 2) (S0 "_law_paintings") [.list (bags.map zl), .list (rb.map .bool)] (.int (paintN bags rb)) := by
  refine CALL.of (names := [S0 "bags", S0 "rainbow"]) (W := [S0 "ended", S0 "p"]) w.paintings ?_ rfl (by decide) ?_ ?_ ?_ ?_
  · intro pm code doc vs hv
    obtain ⟨a, b, rfl⟩ := len2 hv
    rfl
  · intro k x hx
    simp only [List.mem_cons, List.not_mem_nil, or_false] at hx
    rcases hx with rfl | rfl
    · exact .inl rfl
    · exact .inr ⟨rfl, rfl⟩
  · intro k x hx _
    simp only [List.mem_cons, List.not_mem_nil, or_false] at hx
    rcases hx with rfl | rfl <;> rfl
  · intro p hp
    simp only [List.mem_cons, List.not_mem_nil, or_false] at hp
    rcases hp with rfl | rfl <;> rfl
  intro L a cd
  refine EX.cons (EX1.assign (p := .list (([[]] : List (List Int)).map zl)) (EV.list (EVL.cons (EV.list EVL.nil) EVL.nil)) (Or.inl rfl) rfl ?_)
  refine EX.cons (EX1.forN (σ := List (List Int)) (List.range 5) (fun k : Nat => .int (k : Int)) (fun rows => [(S0 "bags", .list (bags.map zl)), (S0 "rainbow", .list (rb.map .bool)), (S0 "rows", .list (rows.map zl))])
    (fun i rows => rows = (List.range i).foldl (stepN bags rb) [[]] ∧ RowsOk i rows) [[]] (IT.range (m := 5) EV.cint (by decide) (by decide) rfl w.range rfl) (Or.inr ⟨rfl, by decide⟩) ⟨rfl, ⟨by simp, by simp, by simp⟩⟩ (Sub.cons rfl (Sub.cons rfl (Sub.cons rfl Sub.nil))) ?_ ?_)
  · rintro i y rows hy ⟨hrows, hok⟩
    obtain ⟨hi, e⟩ := List.getElem?_eq_some_iff.mp hy
    simp only [List.length_range] at hi
    have e : y = i := by simpa using e.symm
    subst e
    have few : rows.length ≤ 3 ^ 4 := Nat.le_trans hok.few (Nat.pow_le_pow_right (by decide) (by omega))
    have okg := hok.grown
    have fewg : (grown rows).length ≤ 3 ^ 5 := Nat.le_trans okg.few (Nat.pow_le_pow_right (by decide) (by omega))
    refine EX.cons (EX1.assign (p := .list ((endedN bags y).map zl)) ((EV.compN [(S0 "p", L + 2)] [(S0 "p", .int (y : Int))] [] bags zl inj_zl (fun b => b.getLastD 0 == (y : Int)) zl id (IT.list (EV.name rfl)) (by walk_at "comp") (by walk_at "tg") ?_ ?_ ?_).cast ?_) (Or.inr ⟨rfl, by decide⟩) rfl ?_)
    · intro B b hbm
      refine IFS.one (TV.cmp (pa := .int (b.getLastD 0)) (EV.sub (EV.name rfl) (EV.neg EV.cint) (SubOK.listNeg (j := b.length - 1) (by decide) (by decide) ?_ ?_)) (EV.name rfl) CmpOK.eq_int)
      · have h1 := (ok b hbm).ne
        have h2 : 0 < b.length := List.length_pos_iff.mpr h1
        rw [List.length_map]
        unfold seqIndex?
        simp only [show (-1 : Int) < 0 by decide, if_true]
        have h3 : (0 : Int) ≤ -1 + b.length := by omega
        have h4 : (-1 : Int) + b.length < b.length := by omega
        simp [h3, h4]
        omega
      · have h1 := (ok b hbm).ne
        rw [List.getElem?_map, List.getElem?_eq_getElem (by have := List.length_pos_iff.mpr h1; omega), List.getLastD_eq_getLast?, List.getLast?_eq_getElem?, List.getElem?_eq_getElem (by have := List.length_pos_iff.mpr h1; omega)]
        rfl
    · intro B b hbm _
      exact EV.name rfl
    · omega
    · rw [List.map_id]; rfl
    refine EX.cons (EX1.comp2A [] [] [] rows zl inj_zl (List.range 3) (fun k : Nat => .int (k : Int)) inj_nat zl (fun row k => row ++ [(k : Int)]) (IT.list (EV.name rfl)) (by walk_at "comp") (by walk_at "tg") (by walk_at "tg") (by decide) ?_ ?_ ?_ rfl (by rfl) ?_)
    · intro B row hr
      exact IT.range (m := 3) EV.cint (by decide) (by decide) rfl w.range rfl
    · intro B row hr k hk
      refine (EV.bin (EV.name rfl) (EV.list (EVL.cons (EV.name rfl) EVL.nil) rfl (Nat.le_of_ble_eq_true rfl)) (BinOK.lists ?_)).cast ?_
      · have := hok.len row hr
        rw [List.length_map, this, sizeLine_eq]
        simp; omega
      · show PV.list _ = PV.list _
        rw [List.map_append]; rfl
    · rw [List.length_range]; omega
    refine EX.cons (EX1.compN [(S0 "rainbow", L + 1), (S0 "ended", L + 3)] [(S0 "rainbow", .list (rb.map .bool)), (S0 "ended", .list ((endedN bags y).map zl))] [] (grown rows) zl inj_zl (fun row => unlikeN row (endedN bags y) rb) zl id (IT.list (EV.name rfl)) (by walk_at "comp") (by walk_at "tg") ?_ ?_ ?_ rfl (by rfl) ?_)
    · intro B row hr
      refine IFS.one (TV.plain (EV.callD w w.unlike (EVL.cons (EV.name rfl) (EVL.cons (EV.name rfl) (EVL.cons (EV.name rfl) EVL.nil))) (unlike_call w ⟨okg.rng row hr, ?_, ?_, ?_, hrb⟩) rfl) TruthOK.bool)
      · rw [okg.len row hr]; omega
      · intro b hb q hq
        have hb' := List.mem_filter.mp hb
        have h1 := (ok b hb'.1).rng q hq
        have h2 := (ok b hb'.1).last q hq
        have h3 : b.getLastD 0 = (y : Int) := by simpa using hb'.2
        rw [okg.len row hr]
        omega
      · intro b hb
        exact (ok b (List.mem_filter.mp hb).1).len
    · intro B row hr _
      exact EV.name rfl
    · omega
    · rw [List.map_id]
      refine EX.nil ⟨stepN bags rb rows y, ⟨?_, okg.filter _⟩, Sub.cons rfl (Sub.cons rfl (Sub.cons rfl Sub.nil))⟩
      rw [List.range_succ, List.foldl_append, ← hrows]; rfl
  · rintro rows ⟨hrows, hok⟩
    refine EX.cons (EX1.ret (EV.callB (EVL.cons (EV.name rfl) EVL.nil) (CallV.len ?_) rfl w.len rfl) ?_)
    · rw [List.length_map]
      have := hok.few
      simp only [List.length_range] at this
      omega
    · show PF.ret _ = PF.ret _
      rw [hrows, List.length_map]; rfl

/-! FnC -/
set_option maxRecDepth 100000
open PySem PySem.W PyProof.Rows PySem.Calls PySem.Spec

theorem foldl_take {α β : Type} {l : List α} {i : Nat} {y : α} (h : l[i]? = some y) (f : β → α → β) (a : β) : (l.take (i + 1)).foldl f a = f ((l.take i).foldl f a) y := by
  rw [List.take_add_one, h, List.foldl_append]; rfl

noncomputable abbrev strL (l : List Nat) : Str := ⟨l.toArray⟩
noncomputable abbrev sign (k : Nat) : PV := .str ⟨#[k]⟩
noncomputable abbrev tieS (t : Nat × Nat) : PV := .str ⟨#[t.1, t.2]⟩
theorem inj_sign : ∀ a b : Nat, sign a = sign b → a = b := fun a b h => by
  injection h with h; injection h with h
  have := congrArg Array.toList h
  simpa using this
theorem inj_tie : ∀ a b : Nat × Nat, tieS a = tieS b → a = b := fun a b h => by
  injection h with h; injection h with h
  have := congrArg Array.toList h
  simp at this
  exact Prod.ext this.1 this.2
theorem strL_app (l m : List Nat) : strL l ++ strL m = strL (l ++ m) := by
  show (⟨l.toArray ++ m.toArray⟩ : Str) = _
  simp [strL]

noncomputable def hangStep (held : List Nat) (group : List Nat) (tie : Nat × Nat) : List Nat :=
  if decide (tie.1 ∈ held) && (decide (tie.2 ∈ held) && (((decide (tie.1 ∈ group)) != (decide (tie.2 ∈ group))) && true)) then group ++ [if decide (tie.1 ∈ group) then tie.2 else tie.1] else group
noncomputable def hangsN (tree : List (Nat × Nat)) (held : List Nat) : Bool :=
  (((held.drop 1).foldl (fun g _ => tree.foldl (hangStep held) g) (held.take 1)).length : Int) == (held.length : Int)

theorem hangStep_len (held group : List Nat) (tie : Nat × Nat) : (hangStep held group tie).length ≤ group.length + 1 := by
  unfold hangStep
  split
  · simp
  · omega

theorem hangs_call (w : Wd c) {tree : List (Nat × Nat)} {held : List Nat} (ht : tree.length ≤ 3) (hh : held.length ≤ 4) :
    CALL c (n + 1) (S0 "_law_hangs") [.list (tree.map tieS), .str (strL held)] (.bool (hangsN tree held)) := by
  refine CALL.of (names := [S0 "tree", S0 "held"]) (W := []) w.hangs ?_ rfl (by decide) ?_ ?_ ?_ ?_
  · intro pm code doc vs hv
    obtain ⟨a, b, rfl⟩ := len2 hv
    rfl
  · intro k x hx
    simp only [List.mem_cons, List.not_mem_nil, or_false] at hx
    rcases hx with rfl | rfl <;> exact .inl rfl
  · intro k x hx; simp at hx
  · intro p hp
    simp only [List.mem_cons, List.not_mem_nil, or_false] at hp
    rcases hp with rfl | rfl <;> rfl
  intro L a cd
  have hz : (strL held).length ≤ sizeLine := by
    show held.toArray.size ≤ _
    rw [List.size_toArray, sizeLine_eq]; omega
  refine EX.cons (EX1.assign (p := .str (strL (held.take 1))) ((EV.strTo (EV.name rfl) EV.cint (by decide) hz).cast rfl) (Or.inl rfl) rfl ?_)
  refine EX.cons (EX1.forN (σ := List Nat) (held.drop 1) sign (fun g => [(S0 "tree", .list (tree.map tieS)), (S0 "held", .str (strL held)), (S0 "group", .str (strL g))])
    (fun i g => g = ((held.drop 1).take i).foldl (fun g _ => tree.foldl (hangStep held) g) (held.take 1) ∧ g.length ≤ 1 + 3 * i) (held.take 1)
    (IT.str ((EV.strFrom (EV.name rfl) EV.cint (by decide) hz).cast rfl)) (Or.inl rfl) ⟨rfl, by rw [List.length_take]; omega⟩ (Sub.cons rfl (Sub.cons rfl (Sub.cons rfl Sub.nil))) ?_ ?_)
  · rintro i y g hy ⟨hg, hgl⟩
    obtain ⟨hi, e⟩ := List.getElem?_eq_some_iff.mp hy
    rw [List.length_drop] at hi
    refine EX.cons (EX1.forN (σ := List Nat) tree tieS (fun g => [(S0 "tree", .list (tree.map tieS)), (S0 "held", .str (strL held)), (S0 "group", .str (strL g))])
      (fun j g' => g' = (tree.take j).foldl (hangStep held) g ∧ g'.length ≤ 1 + 3 * i + j) g (IT.list (EV.name rfl)) (Or.inl rfl) ⟨rfl, hgl⟩ (Sub.cons rfl (Sub.cons rfl (Sub.cons rfl Sub.nil))) ?_ ?_)
    · rintro j tie g' hj ⟨hg', hgl'⟩
      have hjl : j < tree.length := (List.getElem?_eq_some_iff.mp hj).1
      have t0 : ∀ {ρ : PEnv} {v e : Expr}, SubOK c n v e (tieS tie) (.int 0) (sign tie.1) → True := fun _ => trivial
      refine EX.cons (EX1.ite (TV.and (TV.cmp (EV.sub (EV.name rfl) EV.cint (SubOK.str (ch := tie.1) (by decide) (by decide) rfl)) (EV.name rfl) CmpOK.in_str)
        fun _ => TV.and (TV.cmp (EV.sub (EV.name rfl) EV.cint (SubOK.str (ch := tie.2) (by decide) (by decide) rfl)) (EV.name rfl) CmpOK.in_str)
        fun _ => TV.and (TV.cmp (EV.cmp (EV.sub (EV.name rfl) EV.cint (SubOK.str (ch := tie.1) (by decide) (by decide) rfl)) (EV.name rfl) CmpOK.in_str)
          (EV.cmp (EV.sub (EV.name rfl) EV.cint (SubOK.str (ch := tie.2) (by decide) (by decide) rfl)) (EV.name rfl) CmpOK.in_str) CmpOK.ne_bool) fun _ => TV.and_nil) ?_ ?_)
      · intro hc
        refine EX.cons (EX1.assign (p := .str (strL (hangStep held g' tie))) ((EV.bin (EV.name rfl) (EV.ifexp (p := .str (strL [if decide (tie.1 ∈ g') then tie.2 else tie.1])) (TV.cmp (EV.sub (EV.name rfl) EV.cint (SubOK.str (ch := tie.1) (by decide) (by decide) rfl)) (EV.name rfl) CmpOK.in_str) ?_ ?_) (BinOK.cat ?_)).cast ?_) (Or.inl rfl) rfl ?_)
        · intro hx
          have hx : decide (tie.1 ∈ g') = true := by simpa using hx
          rw [hx]
          exact EV.sub (EV.name rfl) EV.cint (SubOK.str (ch := tie.2) (by decide) (by decide) rfl)
        · intro hx
          have hx : decide (tie.1 ∈ g') = false := by simpa using hx
          rw [hx]
          exact EV.sub (EV.name rfl) EV.cint (SubOK.str (ch := tie.1) (by decide) (by decide) rfl)
        · show g'.toArray.size + 1 ≤ _
          rw [List.size_toArray, sizeLine_eq]; omega
        · show PV.str _ = PV.str _
          rw [strL_app]
          have hc' : (decide (tie.1 ∈ held) && (decide (tie.2 ∈ held) && (((decide (tie.1 ∈ g')) != (decide (tie.2 ∈ g'))) && true))) = true := by simpa using hc
          unfold hangStep
          rw [hc']; rfl
        · refine EX.nil (EX.nil ⟨hangStep held g' tie, ⟨?_, ?_⟩, Sub.cons rfl (Sub.cons rfl (Sub.cons rfl Sub.nil))⟩)
          · rw [List.take_add_one, hj, List.foldl_append, ← hg']; rfl
          · have := hangStep_len held g' tie; omega
      · intro hc
        have hc' : (decide (tie.1 ∈ held) && (decide (tie.2 ∈ held) && (((decide (tie.1 ∈ g')) != (decide (tie.2 ∈ g'))) && true))) = false := by simpa using hc
        refine EX.nil (EX.nil ⟨hangStep held g' tie, ⟨?_, ?_⟩, Sub.cons rfl (Sub.cons rfl (Sub.cons ?_ Sub.nil))⟩)
        · rw [List.take_add_one, hj, List.foldl_append, ← hg']; rfl
        · have := hangStep_len held g' tie; omega
        · have : hangStep held g' tie = g' := by unfold hangStep; rw [hc']; rfl
          rw [this]; rfl
    · rintro g' ⟨hg', hgl'⟩
      rw [List.take_length] at hg'
      refine EX.nil ⟨g', ⟨?_, by omega⟩, Sub.cons rfl (Sub.cons rfl (Sub.cons rfl Sub.nil))⟩
      rw [foldl_take hy, ← hg, hg']
  · rintro g ⟨hg, hgl⟩
    rw [List.take_length] at hg
    have hl : (held.drop 1).length ≤ 3 := by rw [List.length_drop]; omega
    refine EX.cons (EX1.ret (EV.cmp (EV.callB (EVL.cons (EV.name rfl) EVL.nil) (CallV.lenStr (x := strL g) ?_) rfl w.len rfl) (EV.callB (EVL.cons (EV.name rfl) EVL.nil) (CallV.lenStr (x := strL held) ?_) rfl w.len rfl) CmpOK.eq_int) ?_)
    · show g.toArray.size < _
      rw [List.size_toArray]; omega
    · show held.toArray.size < _
      rw [List.size_toArray]; omega
    · show PF.ret _ = PF.ret _
      unfold hangsN
      rw [← hg]
      show PF.ret (.bool (((g.toArray.size : Nat) : Int) == ((held.toArray.size : Nat) : Int))) = _
      rw [List.size_toArray, List.size_toArray]

/-! FnD -/
set_option maxRecDepth 100000
open PySem PySem.W PyProof.Rows PySem.Calls PySem.Spec

noncomputable abbrev wxyz : List Nat := [119, 120, 121, 122]
noncomputable abbrev tieAt (ties : List (Nat × Nat)) (x : Nat) : Nat × Nat := ties.getD x (0, 0)
noncomputable abbrev treeAt (ties : List (Nat × Nat)) (x y z : Nat) : List (Nat × Nat) := [tieAt ties x, tieAt ties y, tieAt ties z]
noncomputable def spansN (ties : List (Nat × Nat)) (x y z : Nat) : Bool :=
  (wxyz.filter fun k => !decide (k ∈ [(tieAt ties x).1, (tieAt ties x).2, (tieAt ties y).1, (tieAt ties y).2, (tieAt ties z).1, (tieAt ties z).2])).isEmpty
noncomputable def weightN (shared : List Int) (x y z : Nat) : Int := shared.getD x 0 + shared.getD y 0 + shared.getD z 0
noncomputable def allHang (holders : List (List Nat)) (tree : List (Nat × Nat)) : Bool := holders.foldl (fun b held => b && hangsN tree held) true
noncomputable def stepT (ties : List (Nat × Nat)) (shared : List Int) (x y z : Nat) (h : Int) : Int := if spansN ties x y z then (if weightN shared x y z > h then weightN shared x y z else h) else h
noncomputable def heaviestN (ties : List (Nat × Nat)) (shared : List Int) : Int :=
  (List.range 6).foldl (fun h x => (List.range x).foldl (fun h y => (List.range y).foldl (fun h z => stepT ties shared x y z h) h) h) 0

theorem ok_signs {l : List Nat} (h : ∀ k ∈ l, k < 1000) (m : Nat) : (PV.list (l.map sign)).ok (m + 1) = true := by
  simp only [PV.ok, List.all_map, List.all_eq_true]
  intro k hk
  have := h k hk
  cases m <;> simp [PV.ok, PyData.strOk] <;> omega

structure HvOk (ties : List (Nat × Nat)) (shared : List Int) (holders : List (List Nat)) (most : Int) : Prop where
  tl : ties.length = 6
  sl : shared.length = 6
  hl : ∀ h ∈ holders, h.length ≤ 4
  good : ∀ x y z, x < 6 → y < x → z < y → spansN ties x y z = true → ¬ weightN shared x y z > most ∧ (weightN shared x y z == most) = allHang holders (treeAt ties x y z)

theorem heaviest_call (w : Wd c) {ties : List (Nat × Nat)} {shared : List Int} {holders : List (List Nat)} {most : Int} (ok : HvOk ties shared holders most) :
    CALL c (n + 2) (S0 "_law_heaviest") [.list (ties.map tieS), zl shared, .list (holders.map fun h => .str (strL h)), .int most] (.int (heaviestN ties shared)) := by
  refine CALL.of (names := [S0 "ties", S0 "shared", S0 "holders", S0 "most"]) (W := [S0 "x", S0 "y", S0 "z"]) w.heaviest ?_ rfl (by decide) ?_ ?_ ?_ ?_
  · intro pm code doc vs hv
    obtain ⟨a, b, d, e, rfl⟩ := len4 hv
    rfl
  · intro k x hx
    simp only [List.mem_cons, List.not_mem_nil, or_false] at hx
    rcases hx with rfl | rfl | rfl | rfl
    · exact .inr ⟨rfl, rfl⟩
    · exact .inl rfl
    · exact .inl rfl
    · exact .inl rfl
  · intro k x hx _
    simp only [List.mem_cons, List.not_mem_nil, or_false] at hx
    rcases hx with rfl | rfl | rfl <;> rfl
  · intro p hp
    simp only [List.mem_cons, List.not_mem_nil, or_false] at hp
    rcases hp with rfl | rfl | rfl | rfl <;> rfl
  intro L a cd
  have tieE : ∀ {x : Nat}, x < 6 → (ties.map tieS)[((x : Int)).toNat]? = some (tieS (tieAt ties x)) := fun {x} hx => by
    have : x < ties.length := by rw [ok.tl]; exact hx
    rw [Int.toNat_natCast, List.getElem?_map, List.getElem?_eq_getElem this, tieAt, List.getD_eq_getElem?_getD, List.getElem?_eq_getElem this]; rfl
  have shE : ∀ {x : Nat}, x < 6 → (shared.map PV.int)[((x : Int)).toNat]? = some (.int (shared.getD x 0)) := fun {x} hx => by
    have : x < shared.length := by rw [ok.sl]; exact hx
    rw [Int.toNat_natCast, List.getElem?_map, List.getElem?_eq_getElem this, List.getD_eq_getElem?_getD, List.getElem?_eq_getElem this]; rfl
  refine EX.cons (EX1.assign EV.cint (Or.inl rfl) rfl ?_)
  let base : Int → PEnv := fun h => [(S0 "ties", .list (ties.map tieS)), (S0 "shared", zl shared), (S0 "holders", .list (holders.map fun h => .str (strL h))), (S0 "most", .int most), (S0 "heaviest", .int h)]
  refine EX.cons (EX1.forN (σ := Int) (List.range 6) (fun k : Nat => .int (k : Int)) base
    (fun i h => h = (List.range i).foldl (fun h x => (List.range x).foldl (fun h y => (List.range y).foldl (fun h z => stepT ties shared x y z h) h) h) 0) 0
    (IT.range (m := 6) EV.cint (by decide) (by decide) rfl w.range rfl) (Or.inr ⟨rfl, by decide⟩) rfl (Sub.cons rfl (Sub.cons rfl (Sub.cons rfl (Sub.cons rfl (Sub.cons rfl Sub.nil))))) ?_ ?_)
  · rintro x x' h hx hJ
    obtain ⟨hx6, e⟩ := List.getElem?_eq_some_iff.mp hx
    simp only [List.length_range] at hx6
    have e : x' = x := by simpa using e.symm
    subst e
    refine EX.cons (EX1.forN (σ := Int) (List.range x') (fun k : Nat => .int (k : Int)) (fun h => (S0 "x", .int (x' : Int)) :: base h)
      (fun i h' => h' = (List.range i).foldl (fun h y => (List.range y).foldl (fun h z => stepT ties shared x' y z h) h) h) h
      ((IT.range (m := (x' : Int)) (EV.name rfl) (by omega) (by omega) rfl w.range rfl)) (Or.inr ⟨rfl, by decide⟩) rfl (Sub.cons rfl (Sub.cons rfl (Sub.cons rfl (Sub.cons rfl (Sub.cons rfl (Sub.cons rfl Sub.nil)))))) ?_ ?_)
    · rintro y y' h' hy hJ'
      obtain ⟨hyx, e⟩ := List.getElem?_eq_some_iff.mp hy
      simp only [List.length_range] at hyx
      have e : y' = y := by simpa using e.symm
      subst e
      refine EX.cons (EX1.forN (σ := Int) (List.range y') (fun k : Nat => .int (k : Int)) (fun h => (S0 "y", .int (y' : Int)) :: (S0 "x", .int (x' : Int)) :: base h)
        (fun i h'' => h'' = (List.range i).foldl (fun h z => stepT ties shared x' y' z h) h') h'
        ((IT.range (m := (y' : Int)) (EV.name rfl) (by omega) (by omega) rfl w.range rfl)) (Or.inr ⟨rfl, by decide⟩) rfl (Sub.cons rfl (Sub.cons rfl (Sub.cons rfl (Sub.cons rfl (Sub.cons rfl (Sub.cons rfl (Sub.cons rfl Sub.nil))))))) ?_ ?_)
      · rintro z z' g hz hJ''
        obtain ⟨hzy, e⟩ := List.getElem?_eq_some_iff.mp hz
        simp only [List.length_range] at hzy
        have e : z' = z := by simpa using e.symm
        subst e
        have hz6 : z' < 6 := by omega
        have hy6 : y' < 6 := by omega
        let env1 : PEnv := PEnv.set ((S0 "y", .int (y' : Int)) :: (S0 "x", .int (x' : Int)) :: base g) (S0 "z") (.int (z' : Int))
        refine EX.cons (EX1.ite (b := spansN ties x' y' z') (TV.cmp (EV.compN [(S0 "z", L + 4), (S0 "y", L + 3), (S0 "x", L + 2), (S0 "ties", L + 1)] [(S0 "z", .int (z' : Int)), (S0 "y", .int (y' : Int)), (S0 "x", .int (x' : Int)), (S0 "ties", .list (ties.map tieS))] [] wxyz sign inj_sign (fun k => !decide (k ∈ [(tieAt ties x').1, (tieAt ties x').2, (tieAt ties y').1, (tieAt ties y').2, (tieAt ties z').1, (tieAt ties z').2])) sign id (IT.str EV.cstr) (by walk_at "comp") (by walk_at "tg") ?_ ?_ ?_) (EV.list EVL.nil) ?_) ?_ ?_)
        · intro B k hk
          refine IFS.one (TV.cmp (pb := .str (strL [(tieAt ties x').1, (tieAt ties x').2, (tieAt ties y').1, (tieAt ties y').2, (tieAt ties z').1, (tieAt ties z').2])) (EV.name rfl) ((EV.bin (EV.bin (EV.sub (EV.name rfl) (EV.name rfl) (SubOK.list (by omega) (by omega) (tieE hx6))) (EV.sub (EV.name rfl) (EV.name rfl) (SubOK.list (by omega) (by omega) (tieE hy6))) (BinOK.cat ?_)) (EV.sub (EV.name rfl) (EV.name rfl) (SubOK.list (by omega) (by omega) (tieE hz6))) (BinOK.cat ?_)).cast ?_) CmpOK.notIn_str)
          · exact Nat.le_of_ble_eq_true rfl
          · exact Nat.le_of_ble_eq_true rfl
          · rfl
        · intro B k hk _
          exact EV.name rfl
        · exact Nat.le_of_ble_eq_true rfl
        · rw [List.map_id]
          have h1 : ((wxyz.filter fun k => !decide (k ∈ [(tieAt ties x').1, (tieAt ties x').2, (tieAt ties y').1, (tieAt ties y').2, (tieAt ties z').1, (tieAt ties z').2])).map sign).isEmpty = spansN ties x' y' z' := by
            unfold spansN; rw [List.isEmpty_map]
          rw [← h1]
          refine CmpOK.eq_nil (ok_signs (fun k hk => ?_) 7)
          have := (List.mem_filter.mp hk).1
          simp only [wxyz, List.mem_cons, List.not_mem_nil, or_false] at this
          omega
        · intro hsp
          obtain ⟨g1, g2⟩ := ok.good x' y' z' hx6 hyx hzy hsp
          refine EX.cons (EX1.assign (p := .int (weightN shared x' y' z')) (EV.bin (EV.bin (EV.sub (EV.name rfl) (EV.name rfl) (SubOK.list (by omega) (by omega) (shE hx6))) (EV.sub (EV.name rfl) (EV.name rfl) (SubOK.list (by omega) (by omega) (shE hy6))) BinOK.add) (EV.sub (EV.name rfl) (EV.name rfl) (SubOK.list (by omega) (by omega) (shE hz6))) BinOK.add) (Or.inl rfl) rfl ?_)
          refine EX.cons (EX1.assign EV.cbool (Or.inl rfl) rfl ?_)
          refine EX.cons (EX1.forN (σ := Bool) holders (fun h => .str (strL h)) (fun b => (S0 "hangs", .bool b) :: (S0 "weight", .int (weightN shared x' y' z')) :: env1) (fun i b => b = (holders.take i).foldl (fun b held => b && hangsN (treeAt ties x' y' z') held) true) true
            (IT.list (EV.name rfl)) (Or.inl rfl) rfl (Sub.cons rfl (Sub.cons rfl (Sub.cons rfl (Sub.cons rfl (Sub.cons rfl (Sub.cons rfl (Sub.cons rfl (Sub.cons rfl (Sub.cons rfl (Sub.cons rfl Sub.nil)))))))))) ?_ ?_)
          · rintro i held b hh hb
            have hm := List.mem_of_getElem? hh
            refine EX.cons (EX1.assign (p := .bool (b && hangsN (treeAt ties x' y' z') held)) (EV.and2 (EV.name rfl) fun _ => EV.callD w w.hangs (EVL.cons (EV.list (EVL.cons (EV.sub (EV.name rfl) (EV.name rfl) (SubOK.list (by omega) (by omega) (tieE hx6))) (EVL.cons (EV.sub (EV.name rfl) (EV.name rfl) (SubOK.list (by omega) (by omega) (tieE hy6))) (EVL.cons (EV.sub (EV.name rfl) (EV.name rfl) (SubOK.list (by omega) (by omega) (tieE hz6))) EVL.nil))) rfl (Nat.le_of_ble_eq_true rfl)) (EVL.cons (EV.name rfl) EVL.nil))
              (hangs_call (tree := treeAt ties x' y' z') w (by simp) (ok.hl held hm)) rfl) (Or.inl rfl) rfl ?_)
            refine EX.nil ⟨b && hangsN (treeAt ties x' y' z') held, ?_, Sub.cons rfl (Sub.cons rfl (Sub.cons rfl (Sub.cons rfl (Sub.cons rfl (Sub.cons rfl (Sub.cons rfl (Sub.cons rfl (Sub.cons rfl (Sub.cons rfl Sub.nil)))))))))⟩
            rw [foldl_take hh, ← hb]
          · rintro b hb
            rw [List.take_length] at hb
            have hb' : b = allHang holders (treeAt ties x' y' z') := hb
            refine EX.cons (EX1.ite (TV.or (TV.cmp (EV.name rfl) (EV.name rfl) CmpOK.gt_int) fun _ => TV.or (TV.cmp (EV.cmp (EV.name rfl) (EV.name rfl) CmpOK.eq_int) (EV.name rfl) CmpOK.ne_bool) fun _ => TV.or_nil) ?_ ?_)
            · intro hc
              exfalso
              rw [hb', g2] at hc
              have : decide (most < weightN shared x' y' z') = false := decide_eq_false g1
              rw [this] at hc
              simp at hc
            · intro hc
              refine EX.nil ?_
              refine EX.cons (EX1.assign (p := .int (stepT ties shared x' y' z' g)) ((EV.callB (EVL.cons (EV.name rfl) (EVL.cons (EV.name rfl) EVL.nil)) CallV.max2 rfl w.max rfl).cast ?_) (Or.inl rfl) rfl ?_)
              · unfold stepT; rw [hsp]; rfl
              · refine EX.nil (EX.nil ⟨stepT ties shared x' y' z' g, ?_, Sub.cons rfl (Sub.cons rfl (Sub.cons rfl (Sub.cons rfl (Sub.cons rfl (Sub.cons rfl (Sub.cons rfl Sub.nil))))))⟩)
                rw [List.range_succ, List.foldl_append, ← hJ'']; rfl
        · intro hsp
          refine EX.nil (EX.nil ⟨g, ?_, Sub.cons rfl (Sub.cons rfl (Sub.cons rfl (Sub.cons rfl (Sub.cons rfl (Sub.cons rfl (Sub.cons rfl Sub.nil))))))⟩)
          rw [List.range_succ, List.foldl_append, ← hJ'']
          show g = stepT ties shared x' y' z' g
          unfold stepT; rw [hsp]; rfl
      · rintro g hJ''
        rw [List.length_range] at hJ''
        refine EX.nil ⟨g, ?_, Sub.cons rfl (Sub.cons rfl (Sub.cons rfl (Sub.cons rfl (Sub.cons rfl (Sub.cons rfl Sub.nil)))))⟩
        rw [List.range_succ, List.foldl_append, ← hJ', hJ'']; rfl
    · rintro g hJ'
      rw [List.length_range] at hJ'
      refine EX.nil ⟨g, ?_, Sub.cons rfl (Sub.cons rfl (Sub.cons rfl (Sub.cons rfl (Sub.cons rfl Sub.nil))))⟩
      rw [List.range_succ, List.foldl_append, ← hJ, hJ']; rfl
  · rintro h hJ
    refine EX.cons (EX1.ret (EV.name rfl) ?_)
    show PF.ret _ = PF.ret _
    rw [hJ]; rfl

/-! FnE -/
set_option maxRecDepth 100000
open PySem PySem.W PyProof.Rows PySem.Calls PySem.Spec

noncomputable abbrev ofNats (l : List Nat) : List Int := l.map fun (k : Nat) => (k : Int)
noncomputable def bothN (bags : List (List Int)) (p q : Nat) : List (List Int) := bags.filter fun bag => decide ((p : Int) ∈ bag) && (decide ((q : Int) ∈ bag) && true)
noncomputable def nearN (bags : List (List Int)) (p : Nat) : List Int := ofNats ((List.range 5).filter fun q => ((q : Int) != (p : Int)) && (!(bothN bags p q).isEmpty && true))
noncomputable def nearAll (bags : List (List Int)) : List (List Int) := (List.range 5).map (nearN bags)
noncomputable def hereN (s : Nat) : List Int := ofNats ((List.range 5).filter fun p => Builtin.bitAnd ((s : Int).fdiv (2 ^ (p : Int).toNat)) 1 != 0)
noncomputable def metN (near : List (List Int)) (here : List Int) : List Int := here.map fun p => ((here.filter fun q => decide (q ∈ near.getD p.toNat [])).length : Int)
noncomputable def coverN (bags : List (List Int)) (here : List Int) : List (List Int) := bags.filter fun bag => (here.filter fun p => !decide (p ∈ bag)).isEmpty
noncomputable def badN (bags : List (List Int)) (s : Nat) : Bool :=
  decide (metN (nearAll bags) (hereN s) = [2, 2, 2, 2]) ||
  (decide ((2 : Int) < (hereN s).length) && (decide (metN (nearAll bags) (hereN s) = List.replicate (hereN s).length (((hereN s).length : Int) - 1)) && true) && (coverN bags (hereN s)).isEmpty)
noncomputable def noRingN (bags : List (List Int)) : Bool := (List.range 32).all fun s => !badN bags s

theorem ok_zls {l : List (List Int)} (m : Nat) : (PV.list (l.map zl)).ok (m + 2) = true := by
  simp only [PV.ok, List.all_map, List.all_eq_true]
  intro k _
  exact ok_ints k m

theorem hereN_rng {s : Nat} : ∀ p ∈ hereN s, 0 ≤ p ∧ p < 5 := by
  intro p hp
  obtain ⟨k, hk, rfl⟩ := List.mem_map.mp hp
  have := List.mem_range.mp (List.mem_filter.mp hk).1
  omega
theorem hereN_len {s : Nat} : (hereN s).length ≤ 5 := by
  unfold hereN ofNats
  rw [List.length_map]
  exact Nat.le_trans (List.length_filter_le _ _) (by simp)

theorem no_ring_call (w : Wd c) {bags : List (List Int)} (hb : bags.length ≤ 4) :
    CALL c (n + 1) (S0 "_law_no_ring") [.list (bags.map zl)] (.bool (noRingN bags)) := by
  refine CALL.of (names := [S0 "bags"]) (W := [S0 "near", S0 "s", S0 "here"]) w.no_ring ?_ rfl (by decide) ?_ ?_ ?_ ?_
  · intro pm code doc vs hv
    obtain ⟨a, rfl⟩ := len1 hv
    rfl
  · intro k x hx
    simp only [List.mem_cons, List.not_mem_nil, or_false] at hx
    rcases hx with rfl
    exact .inr ⟨rfl, rfl⟩
  · intro k x hx _
    simp only [List.mem_cons, List.not_mem_nil, or_false] at hx
    rcases hx with rfl | rfl | rfl <;> rfl
  · intro p hp
    simp only [List.mem_cons, List.not_mem_nil, or_false] at hp
    rcases hp with rfl; rfl
  intro L a cd
  refine EX.cons (EX1.assign (p := .list ((nearAll bags).map zl)) (EV.compA [(S0 "bags", L + 1)] [(S0 "bags", .list (bags.map zl))] [S0 "p"] (List.range 5) (fun k : Nat => .int (k : Int)) inj_nat zl (nearN bags)
    (IT.range (m := 5) EV.cint (by decide) (by decide) rfl w.range rfl) (by walk_at "comp") (by walk_at "tg") ?_ ?_) (Or.inr ⟨rfl, by decide⟩) rfl ?_)
  · intro B p hp
    refine (EV.compN [(S0 "p", B + 1), (S0 "bags", L + 1)] [(S0 "p", .int (p : Int)), (S0 "bags", .list (bags.map zl))] [S0 "q"] (List.range 5) (fun k : Nat => .int (k : Int)) inj_nat (fun q => ((q : Int) != (p : Int)) && (!(bothN bags p q).isEmpty && true)) (fun k : Nat => .int (k : Int)) id
      (IT.range (m := 5) EV.cint (by decide) (by decide) rfl w.range rfl) (by walk_at "comp") (by walk_at "tg") ?_ ?_ ?_).cast ?_
    · intro B2 q hq
      refine IFS.one (TV.and (TV.cmp (EV.name rfl) (EV.name rfl) CmpOK.ne_int) fun _ => TV.and (TV.cmp (pa := .list ((bothN bags p q).map zl)) ((EV.compN [(S0 "q", B2 + 1), (S0 "p", B + 1)] [(S0 "q", .int (q : Int)), (S0 "p", .int (p : Int))] [] bags zl inj_zl (fun bag => decide ((p : Int) ∈ bag) && (decide ((q : Int) ∈ bag) && true)) zl id
        (IT.list (EV.name rfl)) (by walk_at "comp") (by walk_at "tg") ?_ ?_ ?_).cast ?_) (EV.list EVL.nil) ?_) fun _ => TV.and_nil)
      · intro B3 bag hbag
        exact IFS.one (TV.and (TV.cmp (EV.name rfl) (EV.name rfl) (CmpOK.in_ints _ _)) fun _ => TV.and (TV.cmp (EV.name rfl) (EV.name rfl) (CmpOK.in_ints _ _)) fun _ => TV.and_nil)
      · intro B3 bag hbag _
        exact EV.name rfl
      · omega
      · rw [List.map_id]; rfl
      · have := CmpOK.ne_nil (c := c) (n := n) (ok_zls (l := bothN bags p q) 6)
        rwa [List.isEmpty_map] at this
    · intro B2 q hq _
      exact EV.name rfl
    · exact Nat.le_of_ble_eq_true rfl
    · rw [List.map_id]
      show PV.list _ = PV.list _
      unfold nearN ofNats
      rw [List.map_map]; rfl
  · exact Nat.le_of_ble_eq_true rfl
  have nearE : ∀ {p : Int}, 0 ≤ p ∧ p < 5 → ((nearAll bags).map zl)[p.toNat]? = some (zl ((nearAll bags).getD p.toNat [])) := fun {p} hp => by
    have : p.toNat < (nearAll bags).length := by simp [nearAll]; omega
    rw [List.getElem?_map, List.getElem?_eq_getElem this, List.getD_eq_getElem?_getD, List.getElem?_eq_getElem this]; rfl
  refine EX.cons (EX1.forN (σ := Unit) (List.range 32) (fun k : Nat => .int (k : Int)) (fun _ => [(S0 "bags", .list (bags.map zl)), (S0 "near", .list ((nearAll bags).map zl))]) (fun i _ => ((List.range i).all fun s => !badN bags s) = true) ()
    (IT.range (m := 32) EV.cint (by decide) (by decide) rfl w.range rfl) (Or.inr ⟨rfl, by decide⟩) rfl (Sub.cons rfl (Sub.cons rfl Sub.nil)) ?_ ?_)
  · rintro i s u hs hJ
    obtain ⟨hi, e⟩ := List.getElem?_eq_some_iff.mp hs
    simp only [List.length_range] at hi
    have e : s = i := by simpa using e.symm
    subst e
    have hlen := hereN_len (s := s)
    have stop : badN bags s = true → noRingN bags = false := fun hbad => by
      unfold noRingN
      rw [Bool.eq_false_iff]
      intro h
      have := (List.all_eq_true.mp h) s (List.mem_range.mpr hi)
      rw [hbad] at this; cases this
    have goOn : badN bags s = false → ((List.range (s + 1)).all fun s => !badN bags s) = true := fun hb => by
      rw [List.range_succ, List.all_append, hJ]; simp [hb]
    refine EX.cons (EX1.assign (p := zl (hereN s)) ((EV.compN [(S0 "s", L + 3)] [(S0 "s", .int (s : Int))] [] (List.range 5) (fun k : Nat => .int (k : Int)) inj_nat (fun p => Builtin.bitAnd ((s : Int).fdiv (2 ^ (p : Int).toNat)) 1 != 0) (fun k : Nat => .int (k : Int)) id
      (IT.range (m := 5) EV.cint (by decide) (by decide) rfl w.range rfl) (by walk_at "comp") (by walk_at "tg") ?_ ?_ ?_).cast ?_) (Or.inr ⟨rfl, by decide⟩) rfl ?_)
    · intro B p hp
      exact IFS.one (TV.plain (EV.bin (EV.bin (EV.name rfl) (EV.name rfl) (BinOK.shr (by omega))) EV.cint BinOK.and) TruthOK.int)
    · intro B p hp _
      exact EV.name rfl
    · exact Nat.le_of_ble_eq_true rfl
    · rw [List.map_id]
      show PV.list _ = PV.list _
      unfold hereN ofNats
      rw [List.map_map]; rfl
    refine EX.cons (EX1.compA [(S0 "near", L + 2), (S0 "here", L + 4)] [(S0 "near", .list ((nearAll bags).map zl)), (S0 "here", zl (hereN s))] [S0 "p"] (hereN s) .int inj_int .int (fun p => (((hereN s).filter fun q => decide (q ∈ (nearAll bags).getD p.toNat [])).length : Int))
      (IT.list (EV.name rfl)) (by walk_at "comp") (by walk_at "tg") ?_ ?_ rfl (by rfl) ?_)
    · intro B p hp
      have hp5 := hereN_rng p hp
      refine EV.callB (EVL.cons ((EV.compN [(S0 "p", B + 1), (S0 "near", L + 2)] [(S0 "p", .int p), (S0 "near", .list ((nearAll bags).map zl))] [] (hereN s) .int inj_int (fun q => decide (q ∈ (nearAll bags).getD p.toNat [])) .int id (IT.list (EV.name rfl)) (by walk_at "comp") (by walk_at "tg") ?_ ?_ ?_).cast (q := zl ((hereN s).filter fun q => decide (q ∈ (nearAll bags).getD p.toNat []))) ?_) EVL.nil) ?_ rfl w.len rfl
      · intro B2 q hq
        exact IFS.one (TV.cmp (EV.name rfl) (EV.sub (EV.name rfl) (EV.name rfl) (SubOK.list hp5.1 (by omega) (nearE hp5))) (CmpOK.in_ints _ _))
      · intro B2 q hq _
        exact EV.name rfl
      · omega
      · rw [List.map_id]
      · have := CallV.len (c := c) (n := n) (l := ((hereN s).filter fun q => decide (q ∈ (nearAll bags).getD p.toNat [])).map PV.int) (by
          rw [List.length_map]
          have := List.length_filter_le (fun q => decide (q ∈ (nearAll bags).getD p.toNat [])) (hereN s)
          omega)
        rwa [List.length_map] at this
    · omega
    have hmet : (hereN s).map (fun p => (((hereN s).filter fun q => decide (q ∈ (nearAll bags).getD p.toNat [])).length : Int)) = metN (nearAll bags) (hereN s) := rfl
    rw [hmet]
    have lenE : ∀ {env : Env} {ρ : PEnv} {fp pos xp : Pos} (h1 : ρ.lookup (S0 "here") = some (zl (hereN s))) (h2 : env.kindOf (S0 "len") = some .globalImplicit), EV c n env ρ (.Call (.Name (S0 "len") fp) [.Name (S0 "here") xp] [] pos) (.int ((hereN s).length : Int)) := fun h1 h2 => by
      have := CallV.len (c := c) (n := n) (l := (hereN s).map PV.int) (by rw [List.length_map]; omega)
      rw [List.length_map] at this
      exact EV.callB (EVL.cons (EV.name h1) EVL.nil) this h2 w.len rfl
    refine EX.cons (EX1.ite (TV.cmp (EV.name rfl) (EV.list (EVL.cons EV.cint (EVL.cons EV.cint (EVL.cons EV.cint (EVL.cons EV.cint EVL.nil))))) (CmpOK.eq_ints (metN (nearAll bags) (hereN s)) [2, 2, 2, 2])) ?_ ?_)
    · intro hc
      refine EX.cons (EX1.ret EV.cbool ?_)
      show PF.ret _ = PF.ret _
      rw [stop (by unfold badN; rw [hc]; rfl)]
    · intro hc
      refine EX.nil ?_
      have hrep : ∀ k : Nat, (List.replicate ((k : Int)).toNat [PV.int ((k : Int) - 1)]).flatten = (List.replicate k ((k : Int) - 1)).map PV.int := fun k => by
        rw [Int.toNat_natCast]
        generalize (k : Int) - 1 = v
        induction k with
        | zero => rfl
        | succ k ih => rw [List.replicate_succ, List.replicate_succ, List.flatten_cons, ih]; rfl
      refine EX.cons (EX1.ite (b := decide ((2 : Int) < (hereN s).length) && (decide (metN (nearAll bags) (hereN s) = List.replicate (hereN s).length (((hereN s).length : Int) - 1)) && true)) (TV.and (TV.cmp (lenE rfl rfl) EV.cint CmpOK.gt_int) fun h2 => TV.and (TV.cmp (EV.name rfl) ((EV.listMul (EVL.cons (EV.bin (lenE rfl rfl) EV.cint BinOK.sub) EVL.nil) (lenE rfl rfl) (by omega) (by omega) ?_ (by simp) rfl (Nat.le_of_ble_eq_true rfl)).cast (congrArg PV.list (hrep _))) (CmpOK.eq_ints _ _)) fun _ => TV.and_nil) ?_ ?_)
      · simp; omega
      · intro h2
        refine EX.cons (EX1.ite (b := (coverN bags (hereN s)).isEmpty) (TV.cmp (pa := .list ((coverN bags (hereN s)).map zl)) ((EV.compN [(S0 "here", L + 4)] [(S0 "here", zl (hereN s))] [S0 "bag"] bags zl inj_zl (fun bag => ((hereN s).filter fun p => !decide (p ∈ bag)).isEmpty) zl id
          (IT.list (EV.name rfl)) (by walk_at "comp") (by walk_at "tg") ?_ ?_ ?_).cast ?_) (EV.list EVL.nil) ?_) ?_ ?_)
        · intro B bag hbag
          refine IFS.one (TV.cmp (pa := zl ((hereN s).filter fun p => !decide (p ∈ bag))) ((EV.compN [(S0 "bag", B + 1)] [(S0 "bag", zl bag)] [] (hereN s) .int inj_int (fun p => !decide (p ∈ bag)) .int id (IT.list (EV.name rfl)) (by walk_at "comp") (by walk_at "tg") ?_ ?_ ?_).cast ?_) (EV.list EVL.nil) ?_)
          · intro B2 p hp
            exact IFS.one (TV.cmp (EV.name rfl) (EV.name rfl) (CmpOK.notIn_ints _ _))
          · intro B2 p hp _
            exact EV.name rfl
          · omega
          · rw [List.map_id]
          · have := CmpOK.eq_nil (c := c) (n := n) (ok_ints ((hereN s).filter fun p => !decide (p ∈ bag)) 7)
            rwa [List.isEmpty_map] at this
        · intro B bag hbag _
          exact EV.name rfl
        · omega
        · rw [List.map_id]; rfl
        · have := CmpOK.eq_nil (c := c) (n := n) (ok_zls (l := coverN bags (hereN s)) 6)
          rwa [List.isEmpty_map] at this
        · intro h3
          refine EX.cons (EX1.ret EV.cbool ?_)
          show PF.ret _ = PF.ret _
          rw [stop (by unfold badN; rw [h2, h3]; simp)]
        · intro h3
          refine EX.nil (EX.nil (EX.nil ⟨(), goOn (by unfold badN; rw [h3, hc]; simp), Sub.cons rfl (Sub.cons rfl Sub.nil)⟩))
      · intro h2
        refine EX.nil (EX.nil ⟨(), goOn (by unfold badN; rw [h2, hc]; simp), Sub.cons rfl (Sub.cons rfl Sub.nil)⟩)
  · rintro u hJ
    rw [List.length_range] at hJ
    refine EX.cons (EX1.ret EV.cbool ?_)
    show PF.ret _ = PF.ret _
    unfold noRingN
    rw [hJ]

/-! FnF0 -/
set_option maxRecDepth 100000
open PySem PySem.W PyProof.Rows PySem.Calls PySem.Spec PySem.Builtin.Str

theorem wxyz_index : ∀ a ∈ wxyz, occurrences (Str.ofString "wxyz") ⟨#[a]⟩ 0 (Str.ofString "wxyz").length 1 = [a - 119] := by decide +kernel
theorem digit_index : ∀ a ∈ [0, 1, 2, 3], occurrences (Str.ofString "0123") ⟨#[48 + a]⟩ 0 (Str.ofString "0123").length 1 = [a] := by decide +kernel
theorem rep_one : ∀ a ∈ wxyz, ∀ b ∈ wxyz, ∀ d ∈ wxyz, ∀ e ∈ wxyz, ∀ y ∈ wxyz, ∀ z ∈ wxyz, (Txt.replace ⟨#[a, b, d, e]⟩ ⟨#[y]⟩ ⟨#[z]⟩).cps.toList = [a, b, d, e].map (fun k => if k = y then z else k) := by decide +kernel

/-! FnF -/
set_option maxRecDepth 100000
set_option maxHeartbeats 4000000
open PySem PySem.W PyProof.Rows PySem.Calls PySem.Spec PySem.Builtin.Str

/-- the text of a tie with its weight: the digit, a point, two signs -/
noncomputable abbrev nameS (r : Nat × (Nat × Nat)) : Str := ⟨#[48 + r.1, 46, r.2.1, r.2.2]⟩
noncomputable def greedyStep (st : List Nat × List Int) (r : Nat × (Nat × Nat)) : List Nat × List Int :=
  let one := st.1.getD (r.2.1 - 119) 0
  let other := st.1.getD (r.2.2 - 119) 0
  if one != other then (st.1.map (fun k => if k = other then one else k), st.2 ++ [3 - (r.1 : Int)]) else st
noncomputable def greedyN (ordered : List (Nat × (Nat × Nat))) : List Int := (ordered.foldl greedyStep (wxyz, [])).2

theorem NoHot.nil : NoHot [] := fun x l e => by simp at e
theorem NoHot.cons {ρ : PEnv} {x : Str} {p : PV} (h : p.isHot = false) (k : NoHot ρ) : NoHot ((x, p) :: ρ) := fun y l e => by
  rw [List.lookup_cons] at e
  cases hy : y == x with
  | true => rw [hy] at e; cases e; cases h
  | false => rw [hy] at e; exact k y l e
theorem sign_ne (a b : Nat) : ((⟨#[a]⟩ : Str) != ⟨#[b]⟩) = (a != b) := by
  by_cases h : a = b
  · subst h; simp
  · have h2 : (⟨#[a]⟩ : Str) ≠ ⟨#[b]⟩ := fun e => h (by
      injection e with e
      have := congrArg Array.toList e
      simpa using this)
    rw [bne_iff_ne.mpr h, bne_iff_ne.mpr h2]
theorem rep_lab {l : List Nat} (h : l.length = 4) (hm : ∀ k ∈ l, k ∈ wxyz) {y z : Nat} (hy : y ∈ wxyz) (hz : z ∈ wxyz) : Txt.replace (strL l) ⟨#[y]⟩ ⟨#[z]⟩ = strL (l.map fun k => if k = y then z else k) := by
  match l, h with
  | [a, b, d, e], _ =>
    refine str_ext ?_
    have := rep_one a (hm a (by simp)) b (hm b (by simp)) d (hm d (by simp)) e (hm e (by simp)) y hy z hz
    rw [this]

structure LabOk (st : List Nat × List Int) (i : Nat) : Prop where
  len : st.1.length = 4
  mem : ∀ k ∈ st.1, k ∈ wxyz
  few : st.2.length ≤ i

theorem label_at {l : List Nat} (h : l.length = 4) {a : Nat} (ha : a ∈ wxyz) : (strL l).cps[a - 119]? = some (l.getD (a - 119) 0) ∧ (l.getD (a - 119) 0) ∈ l := by
  have hlt : a - 119 < l.length := by
    simp only [wxyz, List.mem_cons, List.not_mem_nil, or_false] at ha
    omega
  have e : l[a - 119]? = some (l.getD (a - 119) 0) := by
    rw [List.getD_eq_getElem?_getD, List.getElem?_eq_getElem hlt]; rfl
  exact ⟨by show l.toArray[a - 119]? = _; rw [List.getElem?_toArray]; exact e, List.mem_of_getElem? e⟩

theorem greedy_call (w : Wd c) {ordered : List (Nat × (Nat × Nat))} (hd : ∀ r ∈ ordered, r.1 < 4 ∧ r.2.1 ∈ wxyz ∧ r.2.2 ∈ wxyz) (hl : ordered.length ≤ 6) :
    CALL c (n + 1) (S0 "_law_greedy") [.list (ordered.map fun r => .str (nameS r))] (zl (greedyN ordered)) := by
  refine CALL.of (names := [S0 "ordered"]) (W := []) w.greedy ?_ rfl (by decide) ?_ ?_ ?_ ?_
  · intro pm code doc vs hv
    obtain ⟨a, rfl⟩ := len1 hv
    rfl
  · intro k x hx
    simp only [List.mem_cons, List.not_mem_nil, or_false] at hx
    rcases hx with rfl
    exact .inl rfl
  · intro k x hx; simp at hx
  · intro p hp
    simp only [List.mem_cons, List.not_mem_nil, or_false] at hp
    rcases hp with rfl; rfl
  intro L a cd
  have inj : ∀ a b : Nat × (Nat × Nat), PV.str (nameS a) = PV.str (nameS b) → a = b := fun a b h => by
    injection h with h; injection h with h
    have := congrArg Array.toList h
    simp at this
    exact Prod.ext (by omega) (Prod.ext this.2.1 this.2.2)
  refine EX.cons (EX1.assign EV.cstr (Or.inl rfl) rfl ?_)
  refine EX.cons (EX1.hotNil rfl ?_)
  refine EX.cons (EX1.forN (σ := List Nat × List Int) ordered (fun r => .str (nameS r)) (fun st => [(S0 "ordered", .list (ordered.map fun r => .str (nameS r))), (S0 "label", .str (strL st.1)), (S0 "sizes", .hot (st.2.map .int))])
    (fun i st => st = (ordered.take i).foldl greedyStep (wxyz, []) ∧ LabOk st i) (wxyz, []) (IT.list (EV.name rfl)) (Or.inl rfl) ⟨rfl, rfl, fun k hk => hk, Nat.zero_le _⟩ (Sub.cons rfl (Sub.cons rfl (Sub.cons rfl Sub.nil))) ?_ ?_)
  · rintro i ⟨d, x, y⟩ ⟨lab, sizes⟩ hr ⟨hst, hok⟩
    have hm := hd _ (List.mem_of_getElem? hr)
    obtain ⟨hd4, hx, hy⟩ := hm
    dsimp only at hd4 hx hy
    have hi : i < ordered.length := (List.getElem?_eq_some_iff.mp hr).1
    have hlen : lab.length = 4 := hok.len
    obtain ⟨ex, mx⟩ := label_at hlen hx
    obtain ⟨ey, my⟩ := label_at hlen hy
    have nxt : ∀ st', st' = greedyStep (lab, sizes) (d, x, y) → st' = (ordered.take (i + 1)).foldl greedyStep (wxyz, []) := fun st' h => by
      rw [foldl_take hr, ← hst, h]
    have sgn : ∀ {env : Env} {ρ : PEnv} {k : Int} {p xp pos : Pos} {m z : Nat} {v : Nat} (e1 : ρ.lookup (S0 "name") = some (.str (nameS (d, x, y)))) (h0 : 0 ≤ k) (hk : k < 2 ^ 62) (e : (nameS (d, x, y)).cps[k.toNat]? = some v), EV c n env ρ (.Subscript (.Name (S0 "name") xp) (.Constant (.int k) m p) pos) (.str ⟨#[v]⟩) := fun e1 h0 hk e =>
      EV.sub (EV.name e1) EV.cint (SubOK.str h0 hk e)
    refine EX.cons (EX1.swap2 (ca := lab.getD (x - 119) 0) (cb := lab.getD (y - 119) 0) (SignEV.mk (i := x - 119) (rest := []) (EV.name rfl) EV.cstr (sgn (v := x) (z := 0) rfl (by decide) (by decide) rfl) (wxyz_index x hx) ex (by simp only [wxyz, List.mem_cons, List.not_mem_nil, or_false] at hx; omega))
      (SignEV.mk (i := y - 119) (rest := []) (EV.name rfl) EV.cstr (sgn (v := y) (z := 0) rfl (by decide) (by decide) rfl) (wxyz_index y hy) ey (by simp only [wxyz, List.mem_cons, List.not_mem_nil, or_false] at hy; omega)) (Or.inl rfl) (Or.inl rfl) ?_)
    intro t u ht hu htu
    refine EX.cons (EX1.ite (TV.cmp (EV.name rfl) (EV.name rfl) CmpOK.ne_tstr) ?_ ?_)
    · intro hc
      rw [sign_ne] at hc
      have hne : lab.getD (x - 119) 0 ≠ lab.getD (y - 119) 0 := by simpa using hc
      have hstep : greedyStep (lab, sizes) (d, x, y) = (lab.map (fun k => if k = lab.getD (y - 119) 0 then lab.getD (x - 119) 0 else k), sizes ++ [3 - (d : Int)]) := by
        unfold greedyStep; dsimp only; rw [hc]; rfl
      refine EX.cons (EX1.append (l := sizes.map .int) (p := .int (3 - (d : Int))) [(S0 "ordered", .list (ordered.map fun r => .str (nameS r))), (S0 "label", .str (strL lab)), (S0 "one", .tstr ⟨#[lab.getD (x - 119) 0]⟩ t), (S0 "other", .tstr ⟨#[lab.getD (y - 119) 0]⟩ u)] rfl
        (EV.bin EV.cint (EV.meth EV.cstr (EVL.cons (sgn (v := 48 + d) (z := 0) rfl (by decide) (by decide) rfl) EVL.nil) MethOK.index (CallV.index (digit_index d (by simp; omega)))) BinOK.sub)
        (Sub.cons rfl (Sub.cons rfl (Sub.cons rfl (Sub.cons rfl Sub.nil)))) (NoHot.cons rfl (NoHot.cons rfl (NoHot.cons rfl (NoHot.cons rfl NoHot.nil)))) ?_ ?_)
      · have := hok.few
        dsimp only at this
        rw [List.length_map, sizeLine_eq]; omega
      refine EX.cons (EX1.assign (p := .str (strL (lab.map fun k => if k = lab.getD (y - 119) 0 then lab.getD (x - 119) 0 else k))) ((EV.meth (EV.name rfl) (EVL.cons (EV.name rfl) (EVL.cons (EV.name rfl) EVL.nil)) MethOK.replace (CallV.replace hu ht (fun e => htu e.symm) ?_ ?_)).cast ?_) (Or.inl rfl) rfl ?_)
      · have := sign_ne (lab.getD (y - 119) 0) (lab.getD (x - 119) 0)
        have h2 : (lab.getD (y - 119) 0 != lab.getD (x - 119) 0) = true := bne_iff_ne.mpr hne.symm
        rw [h2] at this
        simpa using this
      · show lab.toArray.size + (lab.toArray.size + 1) * 1 ≤ _
        rw [List.size_toArray, hlen]; decide
      · exact congrArg PV.str (rep_lab hlen hok.mem (hok.mem _ my) (hok.mem _ mx))
      · refine EX.nil (EX.nil ⟨greedyStep (lab, sizes) (d, x, y), ⟨nxt _ rfl, ?_⟩, ?_⟩)
        · rw [hstep]
          refine ⟨by simp [hlen], fun k hk => ?_, ?_⟩
          · obtain ⟨k0, hk0, rfl⟩ := List.mem_map.mp hk
            split
            · exact hok.mem _ mx
            · exact hok.mem _ hk0
          · have := hok.few
            simp at this ⊢
            omega
        · rw [hstep]
          refine Sub.cons rfl (Sub.cons rfl (Sub.cons ?_ Sub.nil))
          show some (PV.hot _) = some (PV.hot _)
          rw [List.map_append]; rfl
    · intro hc
      rw [sign_ne] at hc
      have hstep : greedyStep (lab, sizes) (d, x, y) = (lab, sizes) := by
        unfold greedyStep; dsimp only; rw [hc]; rfl
      refine EX.nil (EX.nil ⟨greedyStep (lab, sizes) (d, x, y), ⟨nxt _ rfl, ?_⟩, ?_⟩)
      · rw [hstep]
        exact ⟨hlen, hok.mem, Nat.le_succ_of_le hok.few⟩
      · rw [hstep]
        exact Sub.cons rfl (Sub.cons rfl (Sub.cons rfl Sub.nil))
  · rintro ⟨lab, sizes⟩ ⟨hst, hok⟩
    rw [List.take_length] at hst
    refine EX.cons (EX1.retHot (l := sizes.map .int) rfl ?_)
    show PF.ret _ = PF.ret _
    unfold greedyN
    rw [← hst]

/-! FnG -/
set_option maxRecDepth 100000
set_option maxHeartbeats 4000000
open PySem PySem.W PyProof.Rows PySem.Calls PySem.Spec PySem.Builtin.Str

theorem strxfrm_call (w : Wd c) {x : Str} : CALL c (n + 1) (S0 "_strxfrm") [.str x] (.str x) := by
  refine CALL.of (names := [S0 "s"]) (W := []) w.strxfrm ?_ rfl (by decide) ?_ ?_ ?_ ?_
  · intro pm code doc vs hv
    obtain ⟨a, rfl⟩ := len1 hv
    rfl
  · intro k x hx
    simp only [List.mem_cons, List.not_mem_nil, or_false] at hx
    rcases hx with rfl
    exact .inl rfl
  · intro k x hx; simp at hx
  · intro p hp
    simp only [List.mem_cons, List.not_mem_nil, or_false] at hp
    rcases hp with rfl; rfl
  intro L a cd
  exact EX.cons (EX1.ret (EV.name rfl) rfl)

theorem localename_call (w : Wd c) {x y : Str} (hx : x.length ≤ 1000) (hy : y.length ≤ 1000) : CALL c (n + 1) (S0 "_build_localename") [.tup [.str x, .str y]] (.str (x ++ Str.ofString "." ++ y)) := by
  refine CALL.of (names := [S0 "localetuple"]) (W := []) w.localename ?_ rfl (by decide) ?_ ?_ ?_ ?_
  · intro pm code doc vs hv
    obtain ⟨a, rfl⟩ := len1 hv
    rfl
  · intro k x hx
    simp only [List.mem_cons, List.not_mem_nil, or_false] at hx
    rcases hx with rfl
    exact .inl rfl
  · intro k x hx; simp at hx
  · intro p hp
    simp only [List.mem_cons, List.not_mem_nil, or_false] at hp
    rcases hp with rfl; rfl
  intro L a cd
  have hl : (x ++ Str.ofString ".").length = x.length + 1 := by
    show (x.cps ++ _).size = _
    rw [Array.size_append]; rfl
  refine EX.cons (EX1.try ?_)
  refine EX.cons (EX1.tup2 (EV.name rfl) (Or.inl rfl) (Or.inl rfl) ?_)
  refine EX.cons (EX1.ite (TV.cmp (EV.name rfl) EV.cnone CmpOK.isNoneStr) (fun h => by cases h) fun _ => EX.nil ?_)
  refine EX.cons (EX1.ite (TV.cmp (EV.name rfl) EV.cnone CmpOK.isNoneStr) (fun h => by cases h) fun _ => ?_)
  refine EX.cons (EX1.ret (EV.bin (EV.bin (EV.name rfl) EV.cstr (BinOK.cat ?_)) (EV.name rfl) (BinOK.cat ?_)) rfl)
  · show x.length + 1 ≤ _
    rw [sizeLine_eq]; omega
  · rw [hl, sizeLine_eq]; omega

noncomputable abbrev tupS (r : Str × Str) : PV := .tup [.str r.1, .str r.2]
noncomputable def ppvN (pairs : List (Str × Str)) : List (Str × Str) := pairs.map fun r => if decide (91 ∈ r.2.cps.toList) then (Str.ofString "", Str.ofString "") else r
theorem ppv_call (w : Wd c) {pairs : List (Str × Str)} (hl : pairs.length ≤ 1000) : CALL c (n + 1) (S0 "_post_parse_validation") [.list (pairs.map tupS)] (.list ((ppvN pairs).map tupS)) := by
  refine CALL.of (names := [S0 "parsed_email_header_tuples"]) (W := []) w.ppv ?_ rfl (by decide) ?_ ?_ ?_ ?_
  · intro pm code doc vs hv
    obtain ⟨a, rfl⟩ := len1 hv
    rfl
  · intro k x hx
    simp only [List.mem_cons, List.not_mem_nil, or_false] at hx
    rcases hx with rfl
    exact .inl rfl
  · intro k x hx; simp at hx
  · intro p hp
    simp only [List.mem_cons, List.not_mem_nil, or_false] at hp
    rcases hp with rfl; rfl
  intro L a cd
  refine EX.cons (EX1.hotNil rfl ?_)
  refine EX.cons (EX1.forN (σ := List (Str × Str)) pairs tupS (fun st => [(S0 "parsed_email_header_tuples", .list (pairs.map tupS)), (S0 "accepted_values", .hot (st.map tupS))])
    (fun i st => st = ppvN (pairs.take i)) [] (IT.list (EV.name rfl)) (Or.inl rfl) rfl (Sub.cons rfl (Sub.cons rfl Sub.nil)) ?_ ?_)
  · rintro i r st hr hst
    have hi : i < pairs.length := (List.getElem?_eq_some_iff.mp hr).1
    have hsl : st.length ≤ 1000 := by rw [hst]; unfold ppvN; rw [List.length_map, List.length_take]; omega
    have last : ∀ (r' : Str × Str) (ρ : PEnv), ρ.lookup (S0 "v") = some (tupS r') → Sub [(S0 "parsed_email_header_tuples", .list (pairs.map tupS)), (S0 "accepted_values", .hot (st.map tupS))] ρ → r' = (if decide (91 ∈ r.2.cps.toList) then (Str.ofString "", Str.ofString "") else r) →
        Sub ((S0 "v", tupS r') :: (S0 "parsed_email_header_tuples", .list (pairs.map tupS)) :: (S0 "accepted_values", .hot (st.map tupS)) :: []) ρ ∧ st ++ [r'] = ppvN (pairs.take (i + 1)) := by
      intro r' ρ h1 h2 h3
      refine ⟨Sub.cons h1 h2, ?_⟩
      unfold ppvN
      rw [List.take_add_one, hr, List.map_append, hst, h3]; rfl
    refine EX.cons (EX1.ite (TV.cmp EV.cstr (EV.sub (EV.name rfl) EV.cint (SubOK.tup (by decide) (by decide) rfl)) (CmpOK.in_str (k := 91))) ?_ ?_)
    · intro hc
      refine EX.cons (EX1.assign (p := tupS (Str.ofString "", Str.ofString "")) (EV.tuple (EVL.cons EV.cstr (EVL.cons EV.cstr EVL.nil))) (Or.inl rfl) rfl (EX.nil ?_))
      refine EX.cons (EX1.append (l := st.map tupS) (p := tupS (Str.ofString "", Str.ofString "")) [(S0 "parsed_email_header_tuples", .list (pairs.map tupS))] rfl (EV.name rfl) (Sub.cons rfl Sub.nil) (NoHot.cons rfl NoHot.nil) (by rw [List.length_map, sizeLine_eq]; omega) ?_)
      refine EX.nil ⟨st ++ [(Str.ofString "", Str.ofString "")], ?_, Sub.cons rfl (Sub.cons ?_ Sub.nil)⟩
      · unfold ppvN
        rw [List.take_add_one, hr, List.map_append, hst]
        show _ = _ ++ [if _ then _ else _]
        rw [if_pos hc]; rfl
      · show some (PV.hot _) = some (PV.hot _)
        rw [List.map_append]; rfl
    · intro hc
      refine EX.nil ?_
      refine EX.cons (EX1.append (l := st.map tupS) (p := tupS r) [(S0 "parsed_email_header_tuples", .list (pairs.map tupS))] rfl (EV.name rfl) (Sub.cons rfl Sub.nil) (NoHot.cons rfl NoHot.nil) (by rw [List.length_map, sizeLine_eq]; omega) ?_)
      refine EX.nil ⟨st ++ [r], ?_, Sub.cons rfl (Sub.cons ?_ Sub.nil)⟩
      · unfold ppvN
        rw [List.take_add_one, hr, List.map_append, hst]
        show _ = _ ++ [if _ then _ else _]
        rw [if_neg (by rw [hc]; exact Bool.false_ne_true)]; rfl
      · show some (PV.hot _) = some (PV.hot _)
        rw [List.map_append]; rfl
  · rintro st hst
    rw [List.take_length] at hst
    refine EX.cons (EX1.retHot (l := st.map tupS) rfl ?_)
    show PF.ret _ = PF.ret _
    rw [hst]

/-! FnH -/
set_option maxRecDepth 100000
set_option maxHeartbeats 4000000
open PySem PySem.W PyProof.Rows PySem.Calls PySem.Spec PySem.Builtin.Str

noncomputable def figs (x : Int) : List Int := [x.fmod 5, (x.fdiv 5).fmod 5, (x.fdiv 25).fmod 5]
noncomputable def bagN (x : Int) : List Int := ofNats ((List.range 5).filter fun p => decide ((p : Int) ∈ figs x))
noncomputable def pairN (x : Int) (p : Nat) : Str × Str := (⟨#[97 + p]⟩, if decide ((p : Int) ∈ figs x) then ⟨#[97 + p]⟩ else strL [91, 97 + p])
noncomputable def pairsN (x : Int) : List (Str × Str) := (List.range 5).map (pairN x)
noncomputable def wantN (x : Int) (p : Nat) : Str × Str := if decide ((p : Int) ∈ figs x) then (⟨#[97 + p]⟩, ⟨#[97 + p]⟩) else (Str.ofString "", Str.ofString "")

theorem ppv_pairs (x : Int) : ppvN (pairsN x) = (List.range 5).map (wantN x) := by
  unfold ppvN pairsN
  rw [List.map_map]
  refine List.map_congr_left fun p hp => ?_
  have hp5 : p < 5 := List.mem_range.mp hp
  show (if decide (91 ∈ (pairN x p).2.cps.toList) then _ else pairN x p) = wantN x p
  unfold pairN wantN
  by_cases h : (p : Int) ∈ figs x
  · rw [decide_eq_true h]
    have h2 : ¬ (91 : Nat) ∈ (⟨#[97 + p]⟩ : Str).cps.toList := by simp; omega
    simp only [if_true]
    rw [if_neg (by simpa using h2)]
  · rw [decide_eq_false h]
    simp [strL]

theorem eqv_tups : ∀ l : List (Str × Str), PyData.eqvAll (PV.dats (l.map tupS)) (PV.dats (l.map tupS)) = true
  | [] => rfl
  | r :: l => by
    show (PyData.eqv (tupS r).dat (tupS r).dat && PyData.eqvAll _ _) = true
    rw [eqv_tups l]
    simp [PV.dat, PV.dats, PyData.eqv, PyData.eqvAll]

theorem ok_want (x : Int) (m : Nat) : (PV.list (((List.range 5).map (wantN x)).map tupS)).ok (m + 2) = true := by
  simp only [PV.ok, List.all_eq_true]
  intro q hq
  obtain ⟨r, hr, rfl⟩ := List.mem_map.mp hq
  obtain ⟨p, hp, rfl⟩ := List.mem_map.mp hr
  have hp5 : p < 5 := List.mem_range.mp hp
  have h1 : PyData.strOk ⟨#[97 + p]⟩ = true := by simp [PyData.strOk]; omega
  have h2 : PyData.strOk (Str.ofString "") = true := by decide +kernel
  unfold wantN tupS
  by_cases h : (p : Int) ∈ figs x
  · rw [decide_eq_true h]
    cases m <;> simp [PV.ok, h1]
  · rw [decide_eq_false h]
    cases m <;> simp [PV.ok, h2]

theorem bag_call (w : Wd c) {x : Int} : CALL c (n + 2) (S0 "_law_bag") [.int x] (zl (bagN x)) := by
  refine CALL.of (names := [S0 "x"]) (W := [S0 "figures", S0 "kept"]) w.bag ?_ rfl (by decide) ?_ ?_ ?_ ?_
  · intro pm code doc vs hv
    obtain ⟨a, rfl⟩ := len1 hv
    rfl
  · intro k x hx
    simp only [List.mem_cons, List.not_mem_nil, or_false] at hx
    rcases hx with rfl
    exact .inl rfl
  · intro k x hx _
    simp only [List.mem_cons, List.not_mem_nil, or_false] at hx
    rcases hx with rfl | rfl <;> rfl
  · intro p hp
    simp only [List.mem_cons, List.not_mem_nil, or_false] at hp
    rcases hp with rfl; rfl
  intro L a cd
  have chE : ∀ p : Nat, p < 5 → (Str.ofString "abcde").cps[((p : Int)).toNat]? = some (97 + p) := fun p hp => by
    have : p = 0 ∨ p = 1 ∨ p = 2 ∨ p = 3 ∨ p = 4 := by omega
    rcases this with rfl | rfl | rfl | rfl | rfl <;> decide
  refine EX.cons (EX1.assign (p := zl (figs x)) (EV.list (EVL.cons (EV.bin (EV.name rfl) EV.cint (BinOK.mod (by decide))) (EVL.cons (EV.bin (EV.bin (EV.name rfl) EV.cint (BinOK.fdiv (by decide) (by decide))) EV.cint (BinOK.mod (by decide)))
    (EVL.cons (EV.bin (EV.bin (EV.name rfl) EV.cint (BinOK.fdiv (by decide) (by decide))) EV.cint (BinOK.mod (by decide))) EVL.nil))) rfl (Nat.le_of_ble_eq_true rfl)) (Or.inr ⟨rfl, by decide⟩) rfl ?_)
  refine EX.cons (EX1.compA [(S0 "figures", L + 1)] [(S0 "figures", zl (figs x))] [] (List.range 5) (fun k : Nat => .int (k : Int)) inj_nat tupS (pairN x) (IT.range (m := 5) EV.cint (by decide) (by decide) rfl w.range rfl) (by walk_at "comp") (by walk_at "tg") ?_ (by simp) rfl (by rfl) ?_)
  · intro B p hp
    have hp5 : p < 5 := List.mem_range.mp hp
    have sg : ∀ {env : Env} {ρ : PEnv} {m : Nat} {q1 q2 q3 : Pos} (h : ρ.lookup (S0 "p") = some (.int (p : Int))), EV c (n + 1) env ρ (.Subscript (.Constant (.str (Str.ofString "abcde")) m q1) (.Name (S0 "p") q2) q3) (.str ⟨#[97 + p]⟩) := fun h =>
      EV.sub EV.cstr (EV.name h) (SubOK.str (by omega) (by omega) (chE p hp5))
    refine EV.tuple (EVL.cons (sg rfl) (EVL.cons (EV.ifexp (x := decide ((p : Int) ∈ figs x)) (TV.cmp (EV.name rfl) (EV.name rfl) (CmpOK.in_ints _ _)) ?_ ?_) EVL.nil)) rfl (Nat.le_of_ble_eq_true rfl)
    · intro h
      have h' : (pairN x p).2 = ⟨#[97 + p]⟩ := by unfold pairN; dsimp only; rw [h]; rfl
      rw [h']
      exact sg rfl
    · intro h
      have h' : (pairN x p).2 = strL [91, 97 + p] := by unfold pairN; dsimp only; rw [h]; rfl
      rw [h']
      refine (EV.bin EV.cstr (sg rfl) (BinOK.cat ?_)).cast ?_
      · show 1 + 1 ≤ _
        rw [sizeLine_eq]; decide
      · rfl
  have hp0 : (List.range 5).map (pairN x) = pairsN x := rfl
  rw [hp0]
  have hppv := ppv_call (n := n) w (pairs := pairsN x) (by simp [pairsN])
  rw [ppv_pairs] at hppv
  refine EX.cons (EX1.assign (EV.callD w w.ppv (EVL.cons (EV.name rfl) EVL.nil) hppv rfl) (Or.inr ⟨rfl, by decide⟩) rfl ?_)
  refine EX.cons (EX1.ite (b := false) (TV.cast (TV.cmp (EV.name rfl) (EV.compA [(S0 "figures", L + 1)] [(S0 "figures", zl (figs x))] [] (List.range 5) (fun k : Nat => .int (k : Int)) inj_nat tupS (wantN x) (IT.range (m := 5) EV.cint (by decide) (by decide) rfl w.range rfl) (by walk_at "comp") (by walk_at "tg") ?_ (by simp)) (CmpOK.ne_data ?_ ?_ (eqv_tups ((List.range 5).map (wantN x))))) rfl) (fun h => by cases h) fun _ => EX.nil ?_)
  · intro B p hp
    have hp5 : p < 5 := List.mem_range.mp hp
    have sg : ∀ {env : Env} {ρ : PEnv} {m : Nat} {q1 q2 q3 : Pos} (h : ρ.lookup (S0 "p") = some (.int (p : Int))), EV c (n + 1) env ρ (.Subscript (.Constant (.str (Str.ofString "abcde")) m q1) (.Name (S0 "p") q2) q3) (.str ⟨#[97 + p]⟩) := fun h =>
      EV.sub EV.cstr (EV.name h) (SubOK.str (by omega) (by omega) (chE p hp5))
    unfold wantN
    refine EV.ifexp (x := decide ((p : Int) ∈ figs x)) (TV.cmp (EV.name rfl) (EV.name rfl) (CmpOK.in_ints _ _)) ?_ ?_
    · intro h
      rw [h]
      exact EV.tuple (EVL.cons (sg rfl) (EVL.cons (sg rfl) EVL.nil)) rfl (Nat.le_of_ble_eq_true rfl)
    · intro h
      rw [h]
      exact EV.tuple (EVL.cons EV.cstr (EVL.cons EV.cstr EVL.nil)) rfl (Nat.le_of_ble_eq_true rfl)
  · exact ok_want x 6
  · exact ok_want x 6
  refine EX.cons (EX1.ret ((EV.compN [(S0 "kept", L + 2)] [(S0 "kept", .list (((List.range 5).map (wantN x)).map tupS))] [] (List.range 5) (fun k : Nat => .int (k : Int)) inj_nat (fun p => (wantN x p).1 != Str.ofString "") (fun k : Nat => .int (k : Int)) id (IT.range (m := 5) EV.cint (by decide) (by decide) rfl w.range rfl) (by walk_at "comp") (by walk_at "tg") ?_ ?_ (by simp)).cast ?_) rfl)
  · intro B p hp
    have hp5 : p < 5 := List.mem_range.mp hp
    refine IFS.one (TV.cmp (EV.sub (EV.sub (EV.name rfl) (EV.name rfl) (SubOK.list (p := tupS (wantN x p)) (by omega) (by omega) ?_)) EV.cint (SubOK.tup (by decide) (by decide) rfl)) EV.cstr CmpOK.ne_str)
    rw [Int.toNat_natCast, List.getElem?_map, List.getElem?_map, List.getElem?_range hp5]; rfl
  · intro B p hp _
    exact EV.name rfl
  · rw [List.map_id]
    show PV.list _ = PV.list _
    unfold bagN ofNats
    rw [List.map_map]
    congr 2
    refine List.filter_congr fun p hp => ?_
    unfold wantN
    by_cases h : (p : Int) ∈ figs x
    · rw [decide_eq_true h]; simp only [if_true]
      have : (⟨#[97 + p]⟩ : Str) ≠ Str.ofString "" := fun e => by
        have := congrArg (fun s : Str => s.cps.size) e
        revert this
        show (1 : Nat) = _ → False
        decide
      exact bne_iff_ne.mpr this
    · rw [decide_eq_false h]; simp

/-! FnI -/
set_option maxRecDepth 100000
set_option maxHeartbeats 4000000
open PySem PySem.W PyProof.Rows PySem.Calls PySem.Spec PySem.Builtin.Str

noncomputable abbrev q4 (k : Nat) : UInt64 := Float64.ofFrac (decide ((k : Int) < 0) != decide ((4 : Int) < 0)) (k : Int).natAbs (4 : Int).natAbs
noncomputable def hsvN (r g b : UInt64) : UInt64 × UInt64 × UInt64 :=
  let maxc := pick3 gtF r g b
  let minc := pick3 ltF r g b
  let rangec := Float64.sub maxc minc
  if Float64.cmp minc maxc == some .eq then (0, 0, maxc)
  else
    let s := Float64.div rangec maxc
    let rc := Float64.div (Float64.sub maxc r) rangec
    let gc := Float64.div (Float64.sub maxc g) rangec
    let bc := Float64.div (Float64.sub maxc b) rangec
    let h := if Float64.cmp r maxc == some .eq then Float64.sub bc gc else if Float64.cmp g maxc == some .eq then Float64.sub (Float64.add 4611686018427387904 rc) bc else Float64.sub (Float64.add 4616189618054758400 gc) rc
    ((Float64.divmod (Float64.div h 4618441417868443648) 4607182418800017408).2, s, maxc)
noncomputable abbrev hueTable : List Int := [0, 0, 2, 1, 4, 5, 3, 0]
noncomputable abbrev top3 (r g b : Int) : Int := if g > r then (if b > g then b else g) else (if b > r then b else r)
noncomputable abbrev shareWant (r g b : Nat) : UInt64 := if ((r : Int) == (g : Int)) && ((g : Int) == (b : Int)) then 0 else 4607182418800017408
noncomputable abbrev isQ (r g b : Nat) : Bool := Float64.cmp (hsvN (q4 r) (q4 g) (q4 b)).2.2 4598175219545276416 == some .eq
noncomputable def colB (r g b : Nat) : Bool :=
  let c := hsvN (q4 r) (q4 g) (q4 b)
  let m := top3 r g b
  let six := Float64.mul (Float64.ofInt 6) c.1
  ((Float64.cmp (pick3 ltF (q4 r) (q4 g) (q4 b)) (pick3 gtF (q4 r) (q4 g) (q4 b)) == some .eq) || (!Float64.isZero (pick3 gtF (q4 r) (q4 g) (q4 b)) && !Float64.isZero (Float64.sub (pick3 gtF (q4 r) (q4 g) (q4 b)) (pick3 ltF (q4 r) (q4 g) (q4 b))))) &&
  (!(Float64.cmp c.2.2 (Float64.ofFrac (decide (m < 0) != decide ((4 : Int) < 0)) m.natAbs (4 : Int).natAbs) != some .eq)) &&
  (!(Float64.cmp c.2.1 (shareWant r g b) != some .eq)) &&
  (!isQ r g b || (Float64.isFinite six && !Float64.isNaN six && !Float64.isInf six && (PySem.Flt.toInt Float64.nearestOf six == hueTable.getD (r + 2 * g + 4 * b) 99)))
theorem col_all : ∀ b, b < 4 → ∀ g, g < 4 - b → ∀ r, r < 4 - b - g → colB r g b = true := by decide +kernel
theorem q_all : ∀ b, b < 4 → ∀ g, g < 4 - b → ∀ r, r < 4 - b - g → isQ r g b = decide (top3 r g b = 1) := by decide +kernel

theorem hsv_call (w : Wd c) {r g b : UInt64} (hz : (Float64.cmp (pick3 ltF r g b) (pick3 gtF r g b) == some .eq) = false → Float64.isZero (pick3 gtF r g b) = false ∧ Float64.isZero (Float64.sub (pick3 gtF r g b) (pick3 ltF r g b)) = false) :
    CALL c (n + 1) (S0 "rgb_to_hsv") [.flt r, .flt g, .flt b] (.tup [.flt (hsvN r g b).1, .flt (hsvN r g b).2.1, .flt (hsvN r g b).2.2]) := by
  refine CALL.of (names := [S0 "r", S0 "g", S0 "b"]) (W := []) w.hsv ?_ rfl (by decide) ?_ ?_ ?_ ?_
  · intro pm code doc vs hv
    obtain ⟨a, b, d, rfl⟩ := len3 hv
    rfl
  · intro k x hx
    simp only [List.mem_cons, List.not_mem_nil, or_false] at hx
    rcases hx with rfl | rfl | rfl <;> exact .inl rfl
  · intro k x hx; simp at hx
  · intro p hp
    simp only [List.mem_cons, List.not_mem_nil, or_false] at hp
    rcases hp with rfl | rfl | rfl <;> rfl
  intro L a cd
  refine EX.cons (EX1.assign (p := .flt (pick3 gtF r g b)) (EV.callB (EVL.cons (EV.name rfl) (EVL.cons (EV.name rfl) (EVL.cons (EV.name rfl) EVL.nil))) CallV.max3F rfl w.max rfl) (Or.inl rfl) rfl ?_)
  refine EX.cons (EX1.assign (p := .flt (pick3 ltF r g b)) (EV.callB (EVL.cons (EV.name rfl) (EVL.cons (EV.name rfl) (EVL.cons (EV.name rfl) EVL.nil))) CallV.min3F rfl w.min rfl) (Or.inl rfl) rfl ?_)
  refine EX.cons (EX1.assign (EV.bin (EV.name rfl) (EV.name rfl) BinOK.subF) (Or.inl rfl) rfl ?_)
  refine EX.cons (EX1.assign (EV.name rfl) (Or.inl rfl) rfl ?_)
  refine EX.cons (EX1.ite (TV.cmp (EV.name rfl) (EV.name rfl) CmpOK.eqF) ?_ ?_)
  · intro hc
    refine EX.cons (EX1.ret (EV.tuple (EVL.cons EV.cflt (EVL.cons EV.cflt (EVL.cons (EV.name rfl) EVL.nil))) rfl (Nat.le_of_ble_eq_true rfl)) ?_)
    show PF.ret _ = PF.ret _
    unfold hsvN
    dsimp only
    rw [if_pos hc]
  · intro hc
    obtain ⟨z1, z2⟩ := hz hc
    refine EX.nil ?_
    refine EX.cons (EX1.assign (EV.bin (EV.name rfl) (EV.name rfl) (BinOK.divF z1)) (Or.inl rfl) rfl ?_)
    refine EX.cons (EX1.assign (EV.bin (EV.bin (EV.name rfl) (EV.name rfl) BinOK.subF) (EV.name rfl) (BinOK.divF z2)) (Or.inl rfl) rfl ?_)
    refine EX.cons (EX1.assign (EV.bin (EV.bin (EV.name rfl) (EV.name rfl) BinOK.subF) (EV.name rfl) (BinOK.divF z2)) (Or.inl rfl) rfl ?_)
    refine EX.cons (EX1.assign (EV.bin (EV.bin (EV.name rfl) (EV.name rfl) BinOK.subF) (EV.name rfl) (BinOK.divF z2)) (Or.inl rfl) rfl ?_)
    have hif : ¬ (Float64.cmp (pick3 ltF r g b) (pick3 gtF r g b) == some .eq) = true := by rw [hc]; exact Bool.false_ne_true
    have fin : ∀ {ρ : PEnv} {h : UInt64} (h1 : ρ.lookup (S0 "h") = some (.flt h)) (h2 : ρ.lookup (S0 "s") = some (.flt (hsvN r g b).2.1)) (h3 : ρ.lookup (S0 "v") = some (.flt (hsvN r g b).2.2)) (h4 : (Float64.divmod (Float64.div h 4618441417868443648) 4607182418800017408).2 = (hsvN r g b).1),
        EX c n (fnEnv (S0 "rgb_to_hsv") (fnAt 1).scope L a cd) [] ((fnAt 1).body.drop 10) ρ (fun fl _ => fl = .ret (.tup [.flt (hsvN r g b).1, .flt (hsvN r g b).2.1, .flt (hsvN r g b).2.2])) := by
      intro ρ h h1 h2 h3 h4
      refine EX.cons (EX1.assign (EV.bin (EV.bin (EV.name h1) EV.cflt (BinOK.divF (by decide +kernel))) EV.cflt (BinOK.modF (by decide +kernel))) (Or.inl rfl) rfl ?_)
      refine EX.cons (EX1.ret (EV.tuple (EVL.cons (EV.name rfl) (EVL.cons (EV.name h2) (EVL.cons (EV.name h3) EVL.nil))) rfl (Nat.le_of_ble_eq_true rfl)) ?_)
      show PF.ret _ = PF.ret _
      rw [h4]
    refine EX.cons (EX1.ite (TV.cmp (EV.name rfl) (EV.name rfl) CmpOK.eqF) ?_ ?_)
    · intro h1
      refine EX.cons (EX1.assign (EV.bin (EV.name rfl) (EV.name rfl) BinOK.subF) (Or.inl rfl) rfl (EX.nil (fin rfl ?_ ?_ ?_)))
      all_goals (unfold hsvN; dsimp only; rw [if_neg hif]; try rw [if_pos h1])
      all_goals rfl
    · intro h1
      have h1' : ¬ (Float64.cmp r (pick3 gtF r g b) == some .eq) = true := by rw [h1]; exact Bool.false_ne_true
      refine EX.cons (EX1.ite (TV.cmp (EV.name rfl) (EV.name rfl) CmpOK.eqF) ?_ ?_)
      · intro h2
        refine EX.cons (EX1.assign (EV.bin (EV.bin EV.cflt (EV.name rfl) BinOK.addF) (EV.name rfl) BinOK.subF) (Or.inl rfl) rfl (EX.nil (EX.nil (fin rfl ?_ ?_ ?_))))
        all_goals (unfold hsvN; dsimp only; rw [if_neg hif]; try rw [if_neg h1', if_pos h2])
        all_goals rfl
      · intro h2
        have h2' : ¬ (Float64.cmp g (pick3 gtF r g b) == some .eq) = true := by rw [h2]; exact Bool.false_ne_true
        refine EX.cons (EX1.assign (EV.bin (EV.bin EV.cflt (EV.name rfl) BinOK.addF) (EV.name rfl) BinOK.subF) (Or.inl rfl) rfl (EX.nil (EX.nil (fin rfl ?_ ?_ ?_))))
        all_goals (unfold hsvN; dsimp only; rw [if_neg hif]; try rw [if_neg h1', if_neg h2'])
        all_goals rfl

/-! FnJ -/
set_option maxRecDepth 100000
set_option maxHeartbeats 4000000
open PySem PySem.W PyProof.Rows PySem.Calls PySem.Spec PySem.Builtin.Str

noncomputable def setQ (rb : List Bool) (r g b : Nat) : List Bool := if isQ r g b then rb.set (r + 4 * g + 16 * b) true else rb
noncomputable def rainbowN : List Bool :=
  (List.range 4).foldl (fun rb b => (List.range (4 - b)).foldl (fun rb g => (List.range (4 - b - g)).foldl (fun rb r => setQ rb r g b) rb) rb) (List.replicate 64 false)
theorem setQ_len (rb : List Bool) (r g b : Nat) : (setQ rb r g b).length = rb.length := by
  unfold setQ; split <;> simp

theorem IT.cast {env : Env} {ρ : PEnv} {e : Expr} {xs ys : List PV} (h : IT c n env ρ e xs) (k : xs = ys) : IT c n env ρ e ys := k ▸ h
theorem hue_at : ∀ k, k < 8 → ([0, 0, 2, 1, 4, 5, 3, 0] : List Int)[k]? = some (hueTable.getD k 99) := by decide +kernel
theorem hue_pv (k : Nat) (h : k < 8) : ([PV.int 0, .int 0, .int 2, .int 1, .int 4, .int 5, .int 3, .int 0] : List PV)[k]? = some (.int (hueTable.getD k 99)) := by
  show (([0, 0, 2, 1, 4, 5, 3, 0] : List Int).map PV.int)[k]? = _
  rw [List.getElem?_map, hue_at k h]; rfl
theorem rainbow_call (w : Wd c) : CALL c (n + 2) (S0 "_law_rainbow") [] (.list (rainbowN.map .bool)) := by
  refine CALL.of (names := []) (W := []) w.rainbow ?_ rfl (by decide) ?_ ?_ ?_ ?_
  · intro pm code doc vs hv
    obtain rfl := len0 hv
    rfl
  · intro k x hx; simp at hx
  · intro k x hx; simp at hx
  · intro p hp; simp at hp
  intro L a cd
  refine EX.cons (EX1.hotBools (bs := List.replicate 64 false) ((EV.listMul (EVL.cons EV.cbool EVL.nil) EV.cint (by decide) (by decide) (by decide) (by simp)).cast ?_) rfl ?_)
  · rfl
  refine EX.cons (EX1.forN (σ := List Bool) (List.range 4) (fun k : Nat => .int (k : Int)) (fun rb => [(S0 "rainbow", .hot (rb.map .bool))])
    (fun i rb => rb = (List.range i).foldl (fun rb b => (List.range (4 - b)).foldl (fun rb g => (List.range (4 - b - g)).foldl (fun rb r => setQ rb r g b) rb) rb) (List.replicate 64 false) ∧ rb.length = 64) (List.replicate 64 false)
    (IT.range (m := 4) EV.cint (by decide) (by decide) rfl w.range rfl) (Or.inl rfl) ⟨rfl, rfl⟩ (Sub.cons rfl Sub.nil) ?_ ?_)
  · rintro b b' rb hb ⟨hJ, hlen⟩
    obtain ⟨hb4, e⟩ := List.getElem?_eq_some_iff.mp hb
    simp only [List.length_range] at hb4
    have e : b' = b := by simpa using e.symm
    subst e
    have i1 : ((4 : Int) - (b' : Int)).toNat = 4 - b' := by omega
    refine EX.cons (EX1.forN (σ := List Bool) (List.range (4 - b')) (fun k : Nat => .int (k : Int)) (fun rb => [(S0 "rainbow", .hot (rb.map .bool)), (S0 "blue", .int (b' : Int))])
      (fun i rb' => rb' = (List.range i).foldl (fun rb g => (List.range (4 - b' - g)).foldl (fun rb r => setQ rb r g b') rb) rb ∧ rb'.length = 64) rb
      ((IT.range (EV.bin EV.cint (EV.name rfl) BinOK.sub) (by omega) (by omega) rfl w.range rfl).cast (by rw [i1]; rfl)) (Or.inl rfl) ⟨rfl, hlen⟩ (Sub.cons rfl (Sub.cons rfl Sub.nil)) ?_ ?_)
    · rintro g g' rb' hg ⟨hJ', hlen'⟩
      obtain ⟨hg4, e⟩ := List.getElem?_eq_some_iff.mp hg
      simp only [List.length_range] at hg4
      have e : g' = g := by simpa using e.symm
      subst e
      have i2 : ((4 : Int) - (b' : Int) - (g' : Int)).toNat = 4 - b' - g' := by omega
      refine EX.cons (EX1.forN (σ := List Bool) (List.range (4 - b' - g')) (fun k : Nat => .int (k : Int)) (fun rb => [(S0 "rainbow", .hot (rb.map .bool)), (S0 "green", .int (g' : Int)), (S0 "blue", .int (b' : Int))])
        (fun i rb'' => rb'' = (List.range i).foldl (fun rb r => setQ rb r g' b') rb' ∧ rb''.length = 64) rb'
        ((IT.range (EV.bin (EV.bin EV.cint (EV.name rfl) BinOK.sub) (EV.name rfl) BinOK.sub) (by omega) (by omega) rfl w.range rfl).cast (by rw [i2]; rfl)) (Or.inl rfl) ⟨rfl, hlen'⟩ (Sub.cons rfl (Sub.cons rfl (Sub.cons rfl Sub.nil))) ?_ ?_)
      · rintro r r' rq hr ⟨hJ'', hlen''⟩
        obtain ⟨hr4, e⟩ := List.getElem?_eq_some_iff.mp hr
        simp only [List.length_range] at hr4
        have e : r' = r := by simpa using e.symm
        subst e
        have hcol := col_all b' hb4 g' hg4 r' hr4
        simp only [colB, Bool.and_eq_true, Bool.or_eq_true, Bool.not_eq_true'] at hcol
        obtain ⟨⟨⟨c1, c2⟩, c3⟩, c4⟩ := hcol
        have hz : (Float64.cmp (pick3 ltF (q4 r') (q4 g') (q4 b')) (pick3 gtF (q4 r') (q4 g') (q4 b')) == some .eq) = false → Float64.isZero (pick3 gtF (q4 r') (q4 g') (q4 b')) = false ∧ Float64.isZero (Float64.sub (pick3 gtF (q4 r') (q4 g') (q4 b')) (pick3 ltF (q4 r') (q4 g') (q4 b'))) = false := fun h => by
          rcases c1 with q | q
          · rw [h] at q; cases q
          · exact q
        have top : (top3 (r' : Int) (g' : Int) (b' : Int)).natAbs < 2 ^ 1023 := by
          have : (top3 (r' : Int) (g' : Int) (b' : Int)).natAbs < 4 := by
            unfold top3; split <;> split <;> omega
          exact Nat.lt_of_lt_of_le this (by decide)
        have qd : ∀ k : Nat, k < 4 → ((k : Int)).natAbs < 2 ^ 1023 := fun k hk => Nat.lt_of_lt_of_le (by omega : ((k : Int)).natAbs < 4) (by decide)
        refine EX.cons (EX1.tup3 (EV.callD w w.hsv (EVL.cons (EV.bin (EV.name rfl) EV.cint (BinOK.divI (by decide) (qd r' (by omega)))) (EVL.cons (EV.bin (EV.name rfl) EV.cint (BinOK.divI (by decide) (qd g' (by omega)))) (EVL.cons (EV.bin (EV.name rfl) EV.cint (BinOK.divI (by decide) (qd b' (by omega)))) EVL.nil))) (hsv_call w hz) rfl) (Or.inl rfl) (Or.inl rfl) (Or.inl rfl) ?_)
        refine EX.cons (EX1.ite (TV.or (TV.cmp (EV.name rfl) (EV.bin (EV.callB (EVL.cons (EV.name rfl) (EVL.cons (EV.name rfl) (EVL.cons (EV.name rfl) EVL.nil))) CallV.max3 rfl w.max rfl) EV.cint (BinOK.divI (by decide) top)) CmpOK.neF) fun _ => TV.or (TV.cmp (EV.name rfl) (EV.ifexp (p := .flt (shareWant r' g' b')) (TV.chain2 (EV.name rfl) (EV.name rfl) (EV.name rfl) CmpOK.eq_int CmpOK.eq_int) ?_ ?_) CmpOK.neF) fun _ => TV.or_nil) ?_ ?_)
        · intro h
          rw [shareWant, if_pos h]
          exact EV.cflt
        · intro h
          rw [shareWant, if_neg (by rw [h]; exact Bool.false_ne_true)]
          exact EV.cflt
        · intro h
          exfalso
          rw [c3] at h
          rw [Bool.or_false, Bool.or_false] at h
          have : (Float64.cmp (hsvN (q4 r') (q4 g') (q4 b')).2.2 (Float64.ofFrac (decide (top3 (r' : Int) (g' : Int) (b' : Int) < 0) != decide ((4 : Int) < 0)) (top3 (r' : Int) (g' : Int) (b' : Int)).natAbs (4 : Int).natAbs) != some .eq) = true := h
          rw [c2] at this; cases this
        · intro _
          refine EX.nil ?_
          refine EX.cons (EX1.ite (b := isQ r' g' b') (TV.cmp (EV.name rfl) EV.cflt CmpOK.eqF) ?_ ?_)
          · intro hq
            rw [hq] at c4
            have c4 : (((Float64.isFinite (Float64.mul (Float64.ofInt 6) (hsvN (q4 r') (q4 g') (q4 b')).1) = true ∧ Float64.isNaN (Float64.mul (Float64.ofInt 6) (hsvN (q4 r') (q4 g') (q4 b')).1) = false) ∧ Float64.isInf (Float64.mul (Float64.ofInt 6) (hsvN (q4 r') (q4 g') (q4 b')).1) = false) ∧
              (PySem.Flt.toInt Float64.nearestOf (Float64.mul (Float64.ofInt 6) (hsvN (q4 r') (q4 g') (q4 b')).1) == hueTable.getD (r' + 2 * g' + 4 * b') 99) = true) := by
              rcases c4 with q | q
              · cases q
              · exact q
            obtain ⟨⟨⟨d1, d2⟩, d3⟩, d4⟩ := c4
            have hidx : r' + 2 * g' + 4 * b' < 8 ∧ r' < 2 ∧ g' < 2 ∧ b' < 2 := by
              have := q_all b' hb4 g' hg4 r' hr4
              rw [hq] at this
              have ht : top3 (r' : Int) (g' : Int) (b' : Int) = 1 := of_decide_eq_true this.symm
              revert ht
              unfold top3
              split <;> split <;> intro ht <;> omega
            refine EX.cons (EX1.ite (b := false) (TV.cast (TV.cmp (EV.callB (EVL.cons (EV.bin EV.cint (EV.name rfl) (BinOK.mulIF (by decide))) EVL.nil) (CallV.roundF d1 d2 d3) rfl w.round rfl)
              (EV.sub (EV.list (EVL.cons EV.cint (EVL.cons EV.cint (EVL.cons EV.cint (EVL.cons EV.cint (EVL.cons EV.cint (EVL.cons EV.cint (EVL.cons EV.cint (EVL.cons EV.cint EVL.nil))))))))) (EV.bin (EV.bin (EV.name rfl) (EV.bin EV.cint (EV.name rfl) (BinOK.mul (IntMulOk.of_left (by decide)))) BinOK.add) (EV.bin EV.cint (EV.name rfl) (BinOK.mul (IntMulOk.of_left (by decide)))) BinOK.add) (SubOK.list (p := .int (hueTable.getD (r' + 2 * g' + 4 * b') 99)) (by omega) (by omega) ?_)) CmpOK.ne_int) ?_) (fun h => by cases h) fun _ => EX.nil ?_)
            · have e1 : ((r' : Int) + 2 * (g' : Int) + 4 * (b' : Int)).toNat = r' + 2 * g' + 4 * b' := by omega
              rw [e1]
              exact hue_pv _ hidx.1
            · have := eq_of_beq d4
              rw [this]; simp
            refine EX.cons (EX1.setHot (bs := rq) (k := r' + 4 * g' + 16 * b') (b := true) [(S0 "green", .int (g' : Int)), (S0 "blue", .int (b' : Int))] rfl EV.cbool ((EV.bin (EV.bin (EV.name rfl) (EV.bin EV.cint (EV.name rfl) (BinOK.mul (IntMulOk.of_left (by decide)))) BinOK.add) (EV.bin EV.cint (EV.name rfl) (BinOK.mul (IntMulOk.of_left (by decide)))) BinOK.add).cast (by simp)) (by omega) (by omega) (Sub.cons rfl (Sub.cons rfl Sub.nil)) (NoHot.cons rfl (NoHot.cons rfl NoHot.nil)) ?_)
            have hs : setQ rq r' g' b' = rq.set (r' + 4 * g' + 16 * b') true := by unfold setQ; rw [if_pos hq]
            refine EX.nil (EX.nil ⟨setQ rq r' g' b', ⟨?_, by rw [setQ_len]; exact hlen''⟩, ?_⟩)
            · rw [List.range_succ, List.foldl_append, ← hJ'']; rfl
            · rw [hs]; exact Sub.cons rfl (Sub.cons rfl (Sub.cons rfl Sub.nil))
          · intro hq
            have hs : setQ rq r' g' b' = rq := by unfold setQ; rw [hq]; rfl
            refine EX.nil (EX.nil ⟨setQ rq r' g' b', ⟨?_, by rw [setQ_len]; exact hlen''⟩, ?_⟩)
            · rw [List.range_succ, List.foldl_append, ← hJ'']; rfl
            · rw [hs]; exact Sub.cons rfl (Sub.cons rfl (Sub.cons rfl Sub.nil))
      · rintro rq ⟨hJ'', hlen''⟩
        rw [List.length_range] at hJ''
        refine EX.nil ⟨rq, ⟨?_, hlen''⟩, Sub.cons rfl (Sub.cons rfl Sub.nil)⟩
        rw [List.range_succ, List.foldl_append, ← hJ', hJ'']; rfl
    · rintro rq ⟨hJ', hlen'⟩
      rw [List.length_range] at hJ'
      refine EX.nil ⟨rq, ⟨?_, hlen'⟩, Sub.cons rfl Sub.nil⟩
      rw [List.range_succ, List.foldl_append, ← hJ, hJ']; rfl
  · rintro rb ⟨hJ, hlen⟩
    refine EX.cons (EX1.retHot (l := rb.map .bool) rfl ?_)
    show PF.ret _ = PF.ret _
    rw [hJ]; rfl

/-! FnK0 -/
set_option maxRecDepth 100000
set_option maxHeartbeats 4000000
open PySem PySem.W PyProof.Rows PySem.Calls PySem.Spec PySem.Builtin.Str
theorem ITT.cast {env : Env} {ρ : PEnv} {e : Expr} {xs ys : List (PV × PV)} (h : ITT c n env ρ e xs) (k : xs = ys) : ITT c n env ρ e ys := k ▸ h
theorem zip_maps {α β : Type} (e : α → PV) (e' : β → PV) : ∀ (xs : List α) (ys : List β), (xs.map e).zip (ys.map e') = (xs.zip ys).map fun r => (e r.1, e' r.2)
  | [], _ => rfl
  | _ :: _, [] => rfl
  | x :: xs, y :: ys => by simp only [List.map_cons, List.zip_cons_cons, zip_maps e e' xs ys]

noncomputable abbrev four : List Int := [55, 86, 117, 41]
noncomputable abbrev ysN (script : List Int) : List Int := script.take 4 ++ List.replicate 4 0
noncomputable def bagsN (script : List Int) : List (List Int) := (four.zip (ysN script)).map fun r => bagN (r.1 + r.2)
noncomputable abbrev tiesN : List (Nat × Nat) := [(119, 120), (119, 121), (119, 122), (120, 121), (120, 122), (121, 122)]
noncomputable def shareN (bags : List (List Int)) (t : Nat × Nat) : Int := ((bags.getD (t.1 - 119) []).filter fun p => decide (p ∈ bags.getD (t.2 - 119) [])).length
noncomputable def sharedN (bags : List (List Int)) : List Int := tiesN.map (shareN bags)
noncomputable def nameAt (shared : List Int) (k : Nat) : Nat × (Nat × Nat) := ((3 - shared.getD k 0).toNat, tieAt tiesN k)
noncomputable def namesN (shared : List Int) : List (Nat × (Nat × Nat)) := (List.range 6).map (nameAt shared)
noncomputable def orderedN (shared : List Int) : List (Nat × (Nat × Nat)) := ([3, 2, 1, 0] : List Int).flatMap fun w => ((List.range 6).filter fun k => shared.getD k 0 == w).map fun k => ((3 - w).toNat, tieAt tiesN k)
noncomputable def holderN (bags : List (List Int)) (p : Nat) : List Nat := ((wxyz.zip bags).filter fun r => decide ((p : Int) ∈ r.2)).map (·.1)
noncomputable def holdersN (bags : List (List Int)) : List (List Nat) := (List.range 5).map (holderN bags)
noncomputable def mostN (bags : List (List Int)) : Int := (bags.map fun b => (b.length : Int)).sum - (((holdersN bags).filter fun h => !h.isEmpty).length : Int)
noncomputable abbrev waysN : List Int := [1, 3, 6, 6]
noncomputable abbrev wayAt (k : Int) : Int := waysN.getD k.toNat 0

structure LawOk (bags : List (List Int)) : Prop where
  len : bags.length = 4
  bag : ∀ b ∈ bags, BagOk b
  sh : ∀ k, k < 6 → 0 ≤ (sharedN bags).getD k 0 ∧ (sharedN bags).getD k 0 ≤ 3
  perm : (orderedN (sharedN bags)).Perm (namesN (sharedN bags))
  sorted : ((orderedN (sharedN bags)).map nameS).Pairwise NotLess
  good : HvOk tiesN (sharedN bags) (holdersN bags) (mostN bags)
  greedy : (greedyN (orderedN (sharedN bags))).sum = heaviestN tiesN (sharedN bags)
  ring : (heaviestN tiesN (sharedN bags) == mostN bags) = noRingN bags
  fin : ¬ heaviestN tiesN (sharedN bags) < mostN bags → ∃ g0 g1 g2, greedyN (orderedN (sharedN bags)) = [g0, g1, g2] ∧ (0 ≤ g0 ∧ g0 ≤ 3) ∧ (0 ≤ g1 ∧ g1 ≤ 3) ∧ (0 ≤ g2 ∧ g2 ≤ 3) ∧
    ((paintN bags rainbowN : Int) * (wayAt g0 * wayAt g1 * wayAt g2) = (wayAt ((bags.getD 0 []).length) * wayAt ((bags.getD 1 []).length) * wayAt ((bags.getD 2 []).length) * wayAt ((bags.getD 3 []).length)) * 3 ^ ((holdersN bags).count []))

theorem rainbow_len : rainbowN.length = 64 := by decide +kernel
theorem ok_bools (l : List Bool) (m : Nat) : (PV.list (l.map .bool)).ok (m + 1) = true := by
  simp only [PV.ok, List.all_map, List.all_eq_true]
  intro k _
  cases m <;> rfl
theorem any_nil {bags : List (List Int)} (h : ∀ b ∈ bags, b ≠ []) : ((PV.dats (bags.map zl)).any fun y => PyData.eqv y (PV.list []).dat) = false := by
  induction bags with
  | nil => rfl
  | cons b bags ih =>
    rw [List.map_cons]
    show (PyData.eqv (zl b).dat (PV.list []).dat || _) = false
    rw [eqv_nil, List.isEmpty_map]
    have h1 := h b (.head _)
    have : b.isEmpty = false := by cases b with | nil => exact absurd rfl h1 | cons a l => rfl
    rw [this]
    exact ih fun b hb => h b (.tail _ hb)

noncomputable def env6 (bags : List (List Int)) : PEnv := [(S0 "bags", .list (bags.map zl)), (S0 "rainbow", .list (rainbowN.map .bool)), (S0 "ties", .list (tiesN.map tieS)), (S0 "shared", zl (sharedN bags)), (S0 "names", .list ((namesN (sharedN bags)).map fun r => .str (nameS r)))]

/-! FnK -/
set_option maxRecDepth 100000
set_option maxHeartbeats 4000000
open PySem PySem.W PyProof.Rows PySem.Calls PySem.Spec PySem.Builtin.Str

theorem law_body (w : Wd c) {script : List Int} (hs : script.length ≤ 63) (ok : LawOk (bagsN script)) (L a : Addr) (cd : Value)
    (tail : ∀ bags, LawOk bags → EX c (n + 4) (fnEnv (S0 "law") (fnAt 16).scope L a cd) [S0 "bags", S0 "ties", S0 "shared"] ((fnAt 16).body.drop 6) (env6 bags) (fun fl _ => fl = .ret (.bool true))) :
    EX c (n + 4) (fnEnv (S0 "law") (fnAt 16).scope L a cd) [S0 "bags", S0 "ties", S0 "shared"] (fnAt 16).body [(S0 "script", zl script)] (fun fl _ => fl = .ret (.bool true)) := by
  refine EX.cons (EX1.assign (p := .list ((bagsN script).map zl)) (EV.compZipA [] [] [] (four.zip (ysN script)) .int inj_int .int inj_int zl (fun x y => bagN (x + y))
    ((ITT.zip (xs := four.map .int) (ys := (ysN script).map .int) (EV.list (EVL.cons EV.cint (EVL.cons EV.cint (EVL.cons EV.cint (EVL.cons EV.cint EVL.nil))))) ((EV.bin (EV.listTo (EV.name rfl) EV.cint (by decide) ?_) (EV.listMul (EVL.cons EV.cint EVL.nil) EV.cint (by decide) (by decide) (by decide) (by simp)) (BinOK.lists ?_)).cast ?_) src_list src_list ?_ rfl w.zip rfl).cast (zip_maps _ _ _ _))
    (by walk_at "comp") (by walk_at "tg") (by walk_at "tg") ?_ ?_) (Or.inr ⟨rfl, by decide⟩) rfl ?_)
  · rw [List.length_map, sizeLine_eq]; omega
  · rw [List.length_take, List.length_map, sizeLine_eq]; simp; omega
  · rw [← List.map_take, List.map_append]; rfl
  · simp [ysN, four]
  · intro B r hr
    exact EV.callD w w.bag (EVL.cons (EV.bin (EV.name rfl) (EV.name rfl) BinOK.add) EVL.nil) (bag_call w) rfl
  · rw [List.length_zip]; simp [four]
  refine EX.cons (EX1.assign (EV.callD w w.rainbow EVL.nil (rainbow_call w) rfl) (Or.inl rfl) rfl ?_)
  generalize bagsN script = bags at ok ⊢
  refine EX.cons (EX1.ite (b := false) (TV.cast (TV.or (TV.cmp (EV.list EVL.nil) (EV.name rfl) (CmpOK.in_data rfl (ok_zls 7) (any_nil fun b hb => (ok.bag b hb).ne))) fun _ => TV.or (TV.cmp (EV.name rfl) (EV.list EVL.nil) (CmpOK.eq_nil (ok_bools rainbowN 7))) fun _ => TV.or_nil) ?_) (fun h => by cases h) fun _ => EX.nil ?_)
  · rw [List.isEmpty_map]
    have : rainbowN.isEmpty = false := by
      have := rainbow_len
      cases h : rainbowN with
      | nil => rw [h] at this; cases this
      | cons a l => rfl
    rw [this]; rfl
  refine EX.cons (EX1.assign (p := .list (tiesN.map tieS)) ((EV.list (EVL.cons EV.cstr (EVL.cons EV.cstr (EVL.cons EV.cstr (EVL.cons EV.cstr (EVL.cons EV.cstr (EVL.cons EV.cstr EVL.nil))))))).cast rfl) (Or.inr ⟨rfl, by decide⟩) rfl ?_)
  have tieM : ∀ t ∈ tiesN, t.1 ∈ wxyz ∧ t.2 ∈ wxyz := by decide
  have bagE : ∀ v ∈ wxyz, (bags.map zl)[(((v - 119 : Nat) : Int)).toNat]? = some (zl (bags.getD (v - 119) [])) := fun v hv => by
    have hlt : v - 119 < bags.length := by
      rw [ok.len]
      simp only [wxyz, List.mem_cons, List.not_mem_nil, or_false] at hv
      omega
    rw [Int.toNat_natCast, List.getElem?_map, List.getElem?_eq_getElem hlt, List.getD_eq_getElem?_getD, List.getElem?_eq_getElem hlt]; rfl
  have bagL : ∀ i, (bags.getD i []).length ≤ 3 := fun i => by
    rw [List.getD_eq_getElem?_getD]
    cases h : bags[i]? with
    | none => simp
    | some b => exact (ok.bag b (List.mem_of_getElem? h)).len
  have big : ∀ v ∈ wxyz, (0 : Int) ≤ ((v - 119 : Nat) : Int) ∧ ((v - 119 : Nat) : Int) < 2 ^ 63 := fun v hv => by
    simp only [wxyz, List.mem_cons, List.not_mem_nil, or_false] at hv
    omega
  refine EX.cons (EX1.assign (p := zl (sharedN bags)) (EV.compA [(S0 "bags", L + 1)] [(S0 "bags", .list (bags.map zl))] [S0 "tie"] tiesN tieS inj_tie .int (shareN bags) (IT.list (EV.name rfl)) (by walk_at "comp") (by walk_at "tg") ?_ (by simp)) (Or.inr ⟨rfl, by decide⟩) rfl ?_)
  · intro B t ht
    obtain ⟨m1, m2⟩ := tieM t ht
    refine EV.callB (EVL.cons ((EV.compN [(S0 "tie", B + 1), (S0 "bags", L + 1)] [(S0 "tie", tieS t), (S0 "bags", .list (bags.map zl))] [] (bags.getD (t.1 - 119) []) .int inj_int (fun p => decide (p ∈ bags.getD (t.2 - 119) [])) .int id
      (IT.list (EV.sub (EV.name rfl) (EV.meth EV.cstr (EVL.cons (EV.sub (EV.name rfl) EV.cint (SubOK.str (ch := t.1) (by decide) (by decide) rfl)) EVL.nil) MethOK.index (CallV.index (wxyz_index t.1 m1))) (SubOK.list (big t.1 m1).1 (big t.1 m1).2 (bagE t.1 m1))))
      (by walk_at "comp") (by walk_at "tg") ?_ ?_ ?_).cast (q := zl ((bags.getD (t.1 - 119) []).filter fun p => decide (p ∈ bags.getD (t.2 - 119) []))) ?_) EVL.nil) ?_ rfl w.len rfl
    · intro B2 p hp
      exact IFS.one (TV.cmp (EV.name rfl) (EV.sub (EV.name rfl) (EV.meth EV.cstr (EVL.cons (EV.sub (EV.name rfl) EV.cint (SubOK.str (ch := t.2) (by decide) (by decide) rfl)) EVL.nil) MethOK.index (CallV.index (wxyz_index t.2 m2))) (SubOK.list (big t.2 m2).1 (big t.2 m2).2 (bagE t.2 m2))) (CmpOK.in_ints _ _))
    · intro B2 p hp _
      exact EV.name rfl
    · have := bagL (t.1 - 119); omega
    · rw [List.map_id]
    · have := CallV.len (c := c) (n := n + 4) (l := ((bags.getD (t.1 - 119) []).filter fun p => decide (p ∈ bags.getD (t.2 - 119) [])).map PV.int) (by
        rw [List.length_map]
        have h1 := List.length_filter_le (fun p => decide (p ∈ bags.getD (t.2 - 119) [])) (bags.getD (t.1 - 119) [])
        have h2 := bagL (t.1 - 119)
        omega)
      rwa [List.length_map] at this
  have shE : ∀ k : Nat, k < 6 → ((sharedN bags).map PV.int)[((k : Int)).toNat]? = some (.int ((sharedN bags).getD k 0)) := fun k hk => by
    have hlt : k < (sharedN bags).length := by simp [sharedN]; omega
    rw [Int.toNat_natCast, List.getElem?_map, List.getElem?_eq_getElem hlt, List.getD_eq_getElem?_getD, List.getElem?_eq_getElem hlt]; rfl
  have tieE : ∀ k : Nat, k < 6 → (tiesN.map tieS)[((k : Int)).toNat]? = some (tieS (tieAt tiesN k)) := fun k hk => by
    have hlt : k < tiesN.length := hk
    rw [Int.toNat_natCast, List.getElem?_map, List.getElem?_eq_getElem hlt, tieAt, List.getD_eq_getElem?_getD, List.getElem?_eq_getElem hlt]; rfl
  have digE : ∀ d : Int, 0 ≤ d → d ≤ 3 → (Str.ofString "0123").cps[d.toNat]? = some (48 + d.toNat) := fun d h0 h3 => by
    have : d = 0 ∨ d = 1 ∨ d = 2 ∨ d = 3 := by omega
    rcases this with rfl | rfl | rfl | rfl <;> decide
  have nameE : ∀ (d : Nat) (t : Nat × Nat), (⟨#[48 + d]⟩ : Str) ++ Str.ofString "." ++ ⟨#[t.1, t.2]⟩ = nameS (d, t) := fun d t => rfl
  refine EX.cons (EX1.compA [(S0 "ties", L + 2), (S0 "shared", L + 3)] [(S0 "ties", .list (tiesN.map tieS)), (S0 "shared", zl (sharedN bags))] [] (List.range 6) (fun k : Nat => .int (k : Int)) inj_nat (fun r => .str (nameS r)) (nameAt (sharedN bags)) (IT.range (m := 6) EV.cint (by decide) (by decide) rfl w.range rfl) (by walk_at "comp") (by walk_at "tg") ?_ (by simp) rfl (by rfl) ?_)
  · intro B k hk
    have hk6 : k < 6 := List.mem_range.mp hk
    obtain ⟨s0, s3⟩ := ok.sh k hk6
    refine (EV.callD w w.localename (EVL.cons (EV.tuple (EVL.cons (EV.sub EV.cstr (EV.bin EV.cint (EV.sub (EV.name rfl) (EV.name rfl) (SubOK.list (by omega) (by omega) (shE k hk6))) BinOK.sub) (SubOK.str (ch := 48 + (3 - (sharedN bags).getD k 0).toNat) (by omega) (by omega) (digE _ (by omega) (by omega)))) (EVL.cons (EV.sub (EV.name rfl) (EV.name rfl) (SubOK.list (by omega) (by omega) (tieE k hk6))) EVL.nil)) rfl (Nat.le_of_ble_eq_true rfl)) EVL.nil) (localename_call w (Nat.le_of_ble_eq_true rfl) (Nat.le_of_ble_eq_true rfl)) rfl).cast ?_
    exact congrArg PV.str (nameE _ _)
  have hnames : (List.range 6).map (nameAt (sharedN bags)) = namesN (sharedN bags) := rfl
  rw [hnames]
  exact (tail bags ok).weak (Sub.cons rfl (Sub.cons rfl (Sub.cons rfl (Sub.cons rfl (Sub.cons rfl Sub.nil)))))

/-! FnL -/
set_option maxRecDepth 100000
set_option maxHeartbeats 4000000
open PySem PySem.W PyProof.Rows PySem.Calls PySem.Spec PySem.Builtin.Str

theorem EV.sortedD {env : Env} {ρ : PEnv} {e : Expr} {f : Str} {fp kp pos kpos : Pos} {ss ys : List Str} (w : Wd c) (he : EV c (n + 2) env ρ e (.list (ss.map .str))) (h64 : ss.length < 64) (hp : ys.Perm ss) (hs : ys.Pairwise NotLess)
    (hx : env.kindOf f = some .globalImplicit) (hf : c.mg f = none) (hb : bootBuiltins f = some (.builtin "sorted")) (hx2 : env.kindOf (S0 "_strxfrm") = some .globalImplicit)
    (hn : f ≠ "__name__" := by decide) (hd : (f == ("__debug__" : Str)) = false := by decide) (hst : isStarred e = false := by rfl) :
    EV c (n + 2) env ρ (.Call (.Name f fp) [e] [⟨some (Str.ofString "key"), .Name (S0 "_strxfrm") kp, kpos⟩] pos) (.list (ys.map .str)) := by
  obtain ⟨fa, hfa⟩ := w.ref (S0 "_strxfrm") w.strxfrm.mem
  exact EV.sortedKey he h64 (fun x _ => strxfrm_call w) hp hs hx hf hb hx2 hfa hn hd (by decide) hst

theorem eqv_strs : ∀ l : List Str, PyData.eqvAll (PV.dats (l.map .str)) (PV.dats (l.map .str)) = true
  | [] => rfl
  | r :: l => by
    show (PyData.eqv (PV.str r).dat (PV.str r).dat && PyData.eqvAll _ _) = true
    rw [eqv_strs l]
    simp [PV.dat, PyData.eqv]
theorem ok_names {l : List (Nat × (Nat × Nat))} (h : ∀ r ∈ l, r.1 < 1000 ∧ r.2.1 < 1000 ∧ r.2.2 < 1000) (m : Nat) : (PV.list ((l.map nameS).map .str)).ok (m + 1) = true := by
  simp only [PV.ok, List.all_eq_true]
  intro q hq
  obtain ⟨x, hx, rfl⟩ := List.mem_map.mp hq
  obtain ⟨r, hr, rfl⟩ := List.mem_map.mp hx
  obtain ⟨h1, h2, h3⟩ := h r hr
  have e : PyData.strOk (nameS r) = true := by simp [PyData.strOk]; omega
  cases m <;> exact e
theorem join_signs : ∀ l : List Nat, Txt.join (Str.ofString "") (l.map fun k => (⟨#[k]⟩ : Str)) = strL l := by
  intro l
  show glued (Str.ofString "") _ = _
  rw [StrLaws.glued_eq_join]
  induction l with
  | nil => rfl
  | cons a l ih =>
    cases l with
    | nil => rfl
    | cons b l =>
      show (⟨#[a]⟩ : Str) ++ Str.ofString "" ++ Str.join (Str.ofString "") _ = _
      rw [ih]
      show strL [a] ++ strL [] ++ strL (b :: l) = _
      rw [strL_app, strL_app]; rfl
theorem strL_empty (l : List Nat) : (strL l != Str.ofString "") = !l.isEmpty := by
  cases l with
  | nil => rfl
  | cons a l =>
    have : strL (a :: l) ≠ Str.ofString "" := fun e => by
      have h2 : (Str.ofString "").cps.toList = [] := rfl
      have := congrArg (fun s : Str => s.cps.toList) e
      dsimp only at this
      rw [h2] at this
      simp at this
    exact bne_iff_ne.mpr this
theorem inj_strL : ∀ a b : List Nat, PV.str (strL a) = PV.str (strL b) → a = b := fun a b h => by
  injection h with h; injection h with h
  have := congrArg Array.toList h
  simpa using this

theorem ordered_mem {sh : List Int} : ∀ r ∈ orderedN sh, r.1 < 4 ∧ r.2.1 ∈ wxyz ∧ r.2.2 ∈ wxyz := by
  intro r hr
  obtain ⟨v, hv, hr⟩ := List.mem_flatMap.mp hr
  obtain ⟨k, hk, rfl⟩ := List.mem_map.mp hr
  have hk6 : k < 6 := List.mem_range.mp (List.mem_filter.mp hk).1
  have ht : ∀ k, k < 6 → (tieAt tiesN k).1 ∈ wxyz ∧ (tieAt tiesN k).2 ∈ wxyz := by decide
  refine ⟨?_, ht k hk6⟩
  simp only [List.mem_cons, List.not_mem_nil, or_false] at hv
  omega

noncomputable def env12 (bags : List (List Int)) : PEnv := [(S0 "bags", .list (bags.map zl)), (S0 "rainbow", .list (rainbowN.map .bool)), (S0 "holders", .list ((holdersN bags).map fun h => .str (strL h))), (S0 "most", .int (mostN bags)), (S0 "greedy", zl (greedyN (orderedN (sharedN bags)))), (S0 "heaviest", .int (heaviestN tiesN (sharedN bags)))]
theorem law_tail (w : Wd c) {bags : List (List Int)} (ok : LawOk bags) (L a : Addr) (cd : Value)
    (tail : EX c (n + 4) (fnEnv (S0 "law") (fnAt 16).scope L a cd) [S0 "bags", S0 "ties", S0 "shared"] ((fnAt 16).body.drop 12) (env12 bags) (fun fl _ => fl = .ret (.bool true))) :
    EX c (n + 4) (fnEnv (S0 "law") (fnAt 16).scope L a cd) [S0 "bags", S0 "ties", S0 "shared"] ((fnAt 16).body.drop 6) (env6 bags) (fun fl _ => fl = .ret (.bool true)) := by
  have hol : (orderedN (sharedN bags)).length = 6 := by
    have := ok.perm.length_eq
    rw [this]; simp [namesN]
  refine EX.cons (EX1.assign (p := .list (((orderedN (sharedN bags)).map nameS).map .str)) (EV.sortedD w (ss := (namesN (sharedN bags)).map nameS) ((EV.name (p := .list ((namesN (sharedN bags)).map fun r => .str (nameS r))) rfl).cast (by rw [List.map_map]; rfl)) (by simp [namesN]) (ok.perm.map _) ok.sorted rfl w.sorted rfl rfl) (Or.inl rfl) rfl ?_)
  have tieE : ∀ k : Nat, k < 6 → (tiesN.map tieS)[((k : Int)).toNat]? = some (tieS (tieAt tiesN k)) := fun k hk => by
    have hlt : k < tiesN.length := hk
    rw [Int.toNat_natCast, List.getElem?_map, List.getElem?_eq_getElem hlt, tieAt, List.getD_eq_getElem?_getD, List.getElem?_eq_getElem hlt]; rfl
  have shE : ∀ k : Nat, k < 6 → ((sharedN bags).map PV.int)[((k : Int)).toNat]? = some (.int ((sharedN bags).getD k 0)) := fun k hk => by
    have hlt : k < (sharedN bags).length := by simp [sharedN]; omega
    rw [Int.toNat_natCast, List.getElem?_map, List.getElem?_eq_getElem hlt, List.getD_eq_getElem?_getD, List.getElem?_eq_getElem hlt]; rfl
  have digE : ∀ d : Int, 0 ≤ d → d ≤ 3 → (Str.ofString "0123").cps[d.toNat]? = some (48 + d.toNat) := fun d h0 h3 => by
    have : d = 0 ∨ d = 1 ∨ d = 2 ∨ d = 3 := by omega
    rcases this with rfl | rfl | rfl | rfl <;> decide
  have hord : (([3, 2, 1, 0] : List Int).flatMap fun v => ((List.range 6).filter fun k => (sharedN bags).getD k 0 == v).map fun k => nameS ((3 - v).toNat, tieAt tiesN k)) = (orderedN (sharedN bags)).map nameS := by
    unfold orderedN
    rw [List.map_flatMap]
    congr 1
    funext v
    rw [List.map_map]; rfl
  refine EX.cons (EX1.ite (b := false) (TV.cast (TV.cmp (EV.name rfl) ((EV.comp2N [(S0 "ties", L + 2), (S0 "shared", L + 3)] [(S0 "ties", .list (tiesN.map tieS)), (S0 "shared", zl (sharedN bags))] [] ([3, 2, 1, 0] : List Int) .int inj_int (List.range 6) (fun k : Nat => .int (k : Int)) inj_nat (fun v k => (sharedN bags).getD k 0 == v) .str (fun v k => nameS ((3 - v).toNat, tieAt tiesN k))
    (IT.tup (EV.tuple (EVL.cons EV.cint (EVL.cons EV.cint (EVL.cons EV.cint (EVL.cons EV.cint EVL.nil)))))) (by walk_at "comp") (by walk_at "tg") (by walk_at "tg") (by decide) ?_ ?_ ?_ (by simp)).cast (congrArg (fun l : List Str => PV.list (l.map PV.str)) hord)) (CmpOK.ne_data (ok_names ?_ 7) (ok_names ?_ 7) (eqv_strs _))) rfl) (fun h => by cases h) fun _ => EX.nil ?_)
  · intro B v hv
    exact IT.range (m := 6) EV.cint (by decide) (by decide) rfl w.range rfl
  · intro B v hv k hk
    have hk6 : k < 6 := List.mem_range.mp hk
    exact IFS.one (TV.cmp (EV.sub (EV.name rfl) (EV.name rfl) (SubOK.list (by omega) (by omega) (shE k hk6))) (EV.name rfl) CmpOK.eq_int)
  · intro B v hv k hk _
    have hk6 : k < 6 := List.mem_range.mp hk
    have hv' : 0 ≤ 3 - v ∧ 3 - v ≤ 3 := by
      simp only [List.mem_cons, List.not_mem_nil, or_false] at hv
      omega
    refine (EV.bin (EV.bin (EV.sub EV.cstr (EV.bin EV.cint (EV.name rfl) BinOK.sub) (SubOK.str (ch := 48 + (3 - v).toNat) (by omega) (by omega) (digE _ hv'.1 hv'.2))) EV.cstr (BinOK.cat ?_)) (EV.sub (EV.name rfl) (EV.name rfl) (SubOK.list (by omega) (by omega) (tieE k hk6))) (BinOK.cat ?_)).cast rfl
    · exact Nat.le_of_ble_eq_true rfl
    · exact Nat.le_of_ble_eq_true rfl
  · intro r hr
    have := ordered_mem r hr
    simp only [wxyz, List.mem_cons, List.not_mem_nil, or_false] at this
    omega
  · intro r hr
    have := ordered_mem r hr
    simp only [wxyz, List.mem_cons, List.not_mem_nil, or_false] at this
    omega
  have hblen := ok.len
  refine EX.cons (EX1.compA [(S0 "bags", L + 1)] [(S0 "bags", .list (bags.map zl))] [S0 "p"] (List.range 5) (fun k : Nat => .int (k : Int)) inj_nat (fun h => .str (strL h)) (holderN bags) (IT.range (m := 5) EV.cint (by decide) (by decide) rfl w.range rfl) (by walk_at "comp") (by walk_at "tg") ?_ (by simp) rfl (by rfl) ?_)
  · intro B p hp
    have hsub : (((wxyz.zip bags).filter fun r => decide ((p : Int) ∈ r.2)).map fun r => (⟨#[r.1]⟩ : Str)) = (holderN bags p).map fun k => (⟨#[k]⟩ : Str) := by
      unfold holderN
      rw [List.map_map]; rfl
    refine (EV.meth EV.cstr (EVL.cons ((EV.compZipN [(S0 "p", B + 1)] [(S0 "p", .int (p : Int))] [] (wxyz.zip bags) sign inj_sign zl inj_zl (fun _ bag => decide ((p : Int) ∈ bag)) .str (fun k _ => (⟨#[k]⟩ : Str))
      ((ITT.zip (xs := wxyz.map sign) (ys := bags.map zl) EV.cstr (EV.name rfl) (src_ascii (by decide +kernel)) src_list (by simp [hblen]) rfl w.zip rfl).cast (zip_maps _ _ _ _)) (by walk_at "comp") (by walk_at "tg") (by walk_at "tg") ?_ ?_ ?_).cast (congrArg (fun l : List Str => PV.list (l.map PV.str)) hsub)) EVL.nil) MethOK.join (CallV.join ?_)).cast ?_
    · intro B2 r hr
      exact IFS.one (TV.cmp (EV.name rfl) (EV.name rfl) (CmpOK.in_ints _ _))
    · intro B2 r hr _
      exact EV.name rfl
    · rw [List.length_zip]; simp; omega
    · have h4 : (holderN bags p).length ≤ 4 := by
        unfold holderN
        rw [List.length_map]
        refine Nat.le_trans (List.length_filter_le _ _) ?_
        rw [List.length_zip]; simp; omega
      have h1 : ∀ l : List Nat, ((l.map fun k => (⟨#[k]⟩ : Str)).map (·.length)).sum = l.length := by
        intro l
        induction l with
        | nil => rfl
        | cons a l ih => rw [List.map_cons, List.map_cons, List.sum_cons, ih, List.length_cons]; show 1 + _ = _; omega
      rw [h1, List.length_map]
      show (holderN bags p).length + (holderN bags p).length * 0 ≤ _
      omega
    · exact congrArg PV.str (join_signs _)
  have hhold : (List.range 5).map (holderN bags) = holdersN bags := rfl
  rw [hhold]
  have hhl : (holdersN bags).length = 5 := by simp [holdersN]
  have bagL : ∀ b ∈ bags, b.length ≤ 3 := fun b hb => (ok.bag b hb).len
  have hmost : mostN bags = (bags.map fun b => (b.length : Int)).sum - (((holdersN bags).filter fun h => !h.isEmpty).length : Int) := rfl
  refine EX.cons (EX1.assign (p := .int (mostN bags)) (EV.bin (EV.callB (EVL.cons (EV.compA [] [] [] bags zl inj_zl .int (fun b => (b.length : Int)) (IT.list (EV.name rfl)) (by walk_at "comp") (by walk_at "tg") ?_ (by omega)) EVL.nil) (CallV.sum ?_ ?_) rfl w.sum rfl)
    (EV.callB (EVL.cons ((EV.compN [] [] [] (holdersN bags) (fun h => .str (strL h)) inj_strL (fun h => !h.isEmpty) (fun h => .str (strL h)) id (IT.list (EV.name rfl)) (by walk_at "comp") (by walk_at "tg") ?_ ?_ (by omega)).cast (q := .list (((holdersN bags).filter fun h => !h.isEmpty).map fun h => .str (strL h))) (by rw [List.map_id])) EVL.nil) ?_ rfl w.len rfl) BinOK.sub) (Or.inl rfl) rfl ?_)
  · intro B b hb
    have := CallV.len (c := c) (n := n + 4) (l := b.map PV.int) (by rw [List.length_map]; have := bagL b hb; omega)
    rw [List.length_map] at this
    exact EV.callB (EVL.cons (EV.name rfl) EVL.nil) this rfl w.len rfl
  · intro x hx
    obtain ⟨b, hb, rfl⟩ := List.mem_map.mp hx
    have := bagL b hb
    omega
  · rw [List.length_map]; omega
  · intro B h hh
    exact (IFS.one (TV.cast (TV.cmp (EV.name rfl) EV.cstr CmpOK.ne_str) (strL_empty h)))
  · intro B h hh _
    exact EV.name rfl
  · have := CallV.len (c := c) (n := n + 4) (l := ((holdersN bags).filter fun h => !h.isEmpty).map fun h => PV.str (strL h)) (by
      rw [List.length_map]
      have := List.length_filter_le (fun h : List Nat => !h.isEmpty) (holdersN bags)
      omega)
    rwa [List.length_map] at this
  refine EX.cons (EX1.assign (p := zl (greedyN (orderedN (sharedN bags)))) (EV.callD w w.greedy (EVL.cons ((EV.name (p := .list (((orderedN (sharedN bags)).map nameS).map .str)) rfl).cast (by rw [List.map_map]; rfl)) EVL.nil) (greedy_call w ordered_mem (by omega)) rfl) (Or.inl rfl) rfl ?_)
  refine EX.cons (EX1.assign (p := .int (heaviestN tiesN (sharedN bags))) (EV.callD w w.heaviest (EVL.cons (EV.name rfl) (EVL.cons (EV.name rfl) (EVL.cons (EV.name rfl) (EVL.cons (EV.name rfl) EVL.nil)))) (heaviest_call (n := n + 2) w ok.good) rfl) (Or.inl rfl) rfl ?_)
  exact tail.weak (Sub.cons rfl (Sub.cons rfl (Sub.cons rfl (Sub.cons rfl (Sub.cons rfl (Sub.cons rfl Sub.nil))))))

/-! FnM -/
set_option maxRecDepth 100000
set_option maxHeartbeats 4000000
open PySem PySem.W PyProof.Rows PySem.Calls PySem.Spec PySem.Builtin.Str

theorem count_in : ∀ l : List (List Nat), PySem.Spec.countIn (.str (Str.ofString "")) ((l.map strL).map PyData.str) = l.count [] := by
  intro l
  induction l with
  | nil => rfl
  | cons a l ih =>
    rw [List.map_cons, List.map_cons]
    show (if PySem.Spec.same (.str (strL a)) (.str (Str.ofString "")) then (1 : Int) else 0) + PySem.Spec.countIn _ _ = _
    rw [ih]
    have hs : PySem.Spec.same (.str (strL a)) (.str (Str.ofString "")) = a.isEmpty := by
      have := strL_empty a
      show (strL a == Str.ofString "") = _
      rw [bne] at this
      cases h : (strL a == Str.ofString "") <;> cases h2 : a.isEmpty <;> simp_all
    rw [hs]
    cases a with
    | nil => rw [List.count_cons]; simp; omega
    | cons b r => rw [List.count_cons]; simp

theorem law_end (w : Wd c) {bags : List (List Int)} (ok : LawOk bags) (L a : Addr) (cd : Value) :
    EX c (n + 4) (fnEnv (S0 "law") (fnAt 16).scope L a cd) [S0 "bags", S0 "ties", S0 "shared"] ((fnAt 16).body.drop 12) (env12 bags) (fun fl _ => fl = .ret (.bool true)) := by
  have gl : (greedyN (orderedN (sharedN bags))).length ≤ 6 ∧ ∀ x ∈ greedyN (orderedN (sharedN bags)), -(2 ^ 40) ≤ x ∧ x < 2 ^ 40 := by
    have : ∀ (l : List (Nat × (Nat × Nat))) (st : List Nat × List Int), (∀ r ∈ l, r.1 < 4) → (∀ x ∈ st.2, -(2 ^ 40) ≤ x ∧ x < 2 ^ 40) → (l.foldl greedyStep st).2.length ≤ st.2.length + l.length ∧ ∀ x ∈ (l.foldl greedyStep st).2, -(2 ^ 40) ≤ x ∧ x < 2 ^ 40 := by
      intro l
      induction l with
      | nil => intro st _ h; exact ⟨Nat.le_refl _, h⟩
      | cons r l ih =>
        intro st h1 h2
        have hr := h1 r (.head _)
        have hst : (greedyStep st r).2.length ≤ st.2.length + 1 ∧ ∀ x ∈ (greedyStep st r).2, -(2 ^ 40) ≤ x ∧ x < 2 ^ 40 := by
          unfold greedyStep
          dsimp only
          split
          · refine ⟨by simp, fun x hx => ?_⟩
            rcases List.mem_append.mp hx with hx | hx
            · exact h2 x hx
            · rw [List.mem_singleton.mp hx]; omega
          · exact ⟨Nat.le_succ _, h2⟩
        obtain ⟨a1, a2⟩ := ih (greedyStep st r) (fun q hq => h1 q (.tail _ hq)) hst.2
        refine ⟨?_, a2⟩
        rw [List.foldl_cons, List.length_cons]
        omega
    have hol : (orderedN (sharedN bags)).length = 6 := by
      rw [ok.perm.length_eq]; simp [namesN]
    obtain ⟨a1, a2⟩ := this (orderedN (sharedN bags)) (wxyz, []) (fun r hr => (ordered_mem r hr).1) (fun x hx => by simp at hx)
    refine ⟨?_, a2⟩
    have : (greedyN (orderedN (sharedN bags))).length ≤ 0 + (orderedN (sharedN bags)).length := a1
    omega
  refine EX.cons (EX1.ite (b := false) (TV.cast (TV.or (TV.cmp (EV.callB (EVL.cons (EV.name rfl) EVL.nil) (CallV.sum gl.2 (by omega)) rfl w.sum rfl) (EV.name rfl) CmpOK.ne_int) fun _ => TV.or (TV.cmp (EV.cmp (EV.name rfl) (EV.name rfl) CmpOK.eq_int) (EV.callD w w.no_ring (EVL.cons (EV.name rfl) EVL.nil) (no_ring_call (n := n + 3) w (by rw [ok.len]; exact Nat.le_refl _)) rfl) CmpOK.ne_bool) fun _ => TV.or_nil) ?_) (fun h => by cases h) fun _ => EX.nil ?_)
  · rw [ok.greedy, ok.ring]; simp
  refine EX.cons (EX1.ite (TV.cmp (EV.name rfl) (EV.name rfl) CmpOK.lt_int) ?_ ?_)
  · intro h
    exact EX.cons (EX1.ret EV.cbool rfl)
  intro hlt
  have hlt : ¬ heaviestN tiesN (sharedN bags) < mostN bags := of_decide_eq_false hlt
  obtain ⟨g0, g1, g2, hg, b0, b1, b2, hfin⟩ := ok.fin hlt
  refine EX.nil ?_
  refine EX.cons (EX1.assign (p := zl waysN) (EV.list (EVL.cons EV.cint (EVL.cons EV.cint (EVL.cons EV.cint (EVL.cons EV.cint EVL.nil))))) (Or.inl rfl) rfl ?_)
  have wayE : ∀ k : Int, 0 ≤ k → k ≤ 3 → (waysN.map PV.int)[k.toNat]? = some (.int (wayAt k)) := fun k h0 h3 => by
    have : k = 0 ∨ k = 1 ∨ k = 2 ∨ k = 3 := by omega
    rcases this with rfl | rfl | rfl | rfl <;> rfl
  have wayB : ∀ k : Int, Builtin.Int.intBits (wayAt k) ≤ 64 := fun k => by
    have : ∀ m, Builtin.Int.intBits (waysN.getD m 0) ≤ 64 := fun m => by
      match m with
      | 0 => decide
      | 1 => decide
      | 2 => decide
      | 3 => decide
      | _ + 4 => simp [waysN]; decide
    exact this _
  have bagL : ∀ b ∈ bags, b.length ≤ 3 := fun b hb => (ok.bag b hb).len
  have gE : ∀ (k : Nat) (v : Int), [g0, g1, g2][k]? = some v → ((greedyN (orderedN (sharedN bags))).map PV.int)[((k : Int)).toNat]? = some (.int v) := fun k v h => by
    rw [hg, Int.toNat_natCast, List.getElem?_map, h]; rfl
  refine EX.cons (EX1.assign (p := .int (wayAt g0 * wayAt g1 * wayAt g2)) (EV.bin (EV.bin (EV.sub (EV.name rfl) (EV.sub (EV.name rfl) EV.cint (SubOK.list (by decide) (by decide) (gE 0 g0 rfl))) (SubOK.list b0.1 (by omega) (wayE g0 b0.1 b0.2)))
    (EV.sub (EV.name rfl) (EV.sub (EV.name rfl) EV.cint (SubOK.list (by decide) (by decide) (gE 1 g1 rfl))) (SubOK.list b1.1 (by omega) (wayE g1 b1.1 b1.2))) (BinOK.mul (IntMulOk.of_right (wayB _))))
    (EV.sub (EV.name rfl) (EV.sub (EV.name rfl) EV.cint (SubOK.list (by decide) (by decide) (gE 2 g2 rfl))) (SubOK.list b2.1 (by omega) (wayE g2 b2.1 b2.2))) (BinOK.mul (IntMulOk.of_right (wayB _)))) (Or.inl rfl) rfl ?_)
  have bE : ∀ k : Nat, k < 4 → (bags.map zl)[((k : Int)).toNat]? = some (zl (bags.getD k [])) := fun k hk => by
    have hlt : k < bags.length := by rw [ok.len]; exact hk
    rw [Int.toNat_natCast, List.getElem?_map, List.getElem?_eq_getElem hlt, List.getD_eq_getElem?_getD, List.getElem?_eq_getElem hlt]; rfl
  have bL : ∀ i, (bags.getD i []).length ≤ 3 := fun i => by
    rw [List.getD_eq_getElem?_getD]
    cases h : bags[i]? with
    | none => simp
    | some b => exact bagL b (List.mem_of_getElem? h)
  have lenE : ∀ (k : Nat), CallV c (n + 4) (.builtin "len") [zl (bags.getD k [])] (.int ((bags.getD k []).length : Int)) := fun k => by
    have := CallV.len (c := c) (n := n + 4) (l := (bags.getD k []).map PV.int) (by rw [List.length_map]; have := bL k; omega)
    rwa [List.length_map] at this
  refine EX.cons (EX1.assign (p := .int (wayAt ((bags.getD 0 []).length) * wayAt ((bags.getD 1 []).length) * wayAt ((bags.getD 2 []).length) * wayAt ((bags.getD 3 []).length))) (EV.bin (EV.bin (EV.bin
    (EV.sub (EV.name rfl) (EV.callB (EVL.cons (EV.sub (EV.name rfl) EV.cint (SubOK.list (by decide) (by decide) (bE 0 (by decide)))) EVL.nil) (lenE 0) rfl w.len rfl) (SubOK.list (by omega) (by have := bL 0; omega) (wayE _ (by omega) (by have := bL 0; omega))))
    (EV.sub (EV.name rfl) (EV.callB (EVL.cons (EV.sub (EV.name rfl) EV.cint (SubOK.list (by decide) (by decide) (bE 1 (by decide)))) EVL.nil) (lenE 1) rfl w.len rfl) (SubOK.list (by omega) (by have := bL 1; omega) (wayE _ (by omega) (by have := bL 1; omega)))) (BinOK.mul (IntMulOk.of_right (wayB _))))
    (EV.sub (EV.name rfl) (EV.callB (EVL.cons (EV.sub (EV.name rfl) EV.cint (SubOK.list (by decide) (by decide) (bE 2 (by decide)))) EVL.nil) (lenE 2) rfl w.len rfl) (SubOK.list (by omega) (by have := bL 2; omega) (wayE _ (by omega) (by have := bL 2; omega)))) (BinOK.mul (IntMulOk.of_right (wayB _))))
    (EV.sub (EV.name rfl) (EV.callB (EVL.cons (EV.sub (EV.name rfl) EV.cint (SubOK.list (by decide) (by decide) (bE 3 (by decide)))) EVL.nil) (lenE 3) rfl w.len rfl) (SubOK.list (by omega) (by have := bL 3; omega) (wayE _ (by omega) (by have := bL 3; omega)))) (BinOK.mul (IntMulOk.of_right (wayB _)))) (Or.inl rfl) rfl ?_)
  have hcnt : (holdersN bags).count [] ≤ 5 := by
    refine Nat.le_trans List.count_le_length ?_
    simp [holdersN]
  have hci := count_in (holdersN bags)
  refine EX.cons (EX1.ret ((EV.cmp (EV.bin (EV.callD w w.paintings (EVL.cons (EV.name rfl) (EVL.cons (EV.name rfl) EVL.nil)) (paintings_call (n := n + 2) w ok.bag (by rw [ok.len]; exact Nat.le_refl _) rainbow_len) rfl) (EV.name rfl) (BinOK.mul ?_))
    (EV.bin (EV.name rfl) (EV.bin EV.cint (EV.meth ((EV.name (p := .list ((holdersN bags).map fun h => .str (strL h))) rfl).cast (q := .list (((holdersN bags).map strL).map .str)) (by rw [List.map_map]; rfl)) (EVL.cons EV.cstr EVL.nil) MethOK.count CallV.count) (BinOK.pow ?_ ?_)) (BinOK.mul ?_)) CmpOK.eq_int).cast ?_) rfl)
  · refine IntMulOk.of_right ?_
    have h0 : g0 = 0 ∨ g0 = 1 ∨ g0 = 2 ∨ g0 = 3 := by omega
    have h1 : g1 = 0 ∨ g1 = 1 ∨ g1 = 2 ∨ g1 = 3 := by omega
    have h2 : g2 = 0 ∨ g2 = 1 ∨ g2 = 2 ∨ g2 = 3 := by omega
    rcases h0 with rfl | rfl | rfl | rfl <;> rcases h1 with rfl | rfl | rfl | rfl <;> rcases h2 with rfl | rfl | rfl | rfl <;> decide +kernel
  · rw [hci]; omega
  · rw [hci]
    have : (Builtin.Int.intBits 3 : Int) = 2 := by decide +kernel
    rw [this]
    have : (((holdersN bags).count [] : Nat) : Int) ≤ 5 := by omega
    omega
  · rw [hci, Int.toNat_natCast]
    refine IntMulOk.of_right ?_
    generalize (holdersN bags).count [] = m at hcnt
    match m, hcnt with
    | 0, _ => decide +kernel
    | 1, _ => decide +kernel
    | 2, _ => decide +kernel
    | 3, _ => decide +kernel
    | 4, _ => decide +kernel
    | 5, _ => decide +kernel
  · rw [hci, Int.toNat_natCast, hfin]
    simp

end Mine
end

/-! Qa -/
section
set_option maxRecDepth 100000
set_option maxHeartbeats 4000000
namespace Mine
open PySem

/-! The bags that the law may build, and their letters' columns. -/
noncomputable def allBags : List (List Int) :=
  [[0], [1], [2], [3], [4], [0, 1], [0, 2], [0, 3], [0, 4], [1, 2], [1, 3], [1, 4], [2, 3], [2, 4], [3, 4],
   [0, 1, 2], [0, 1, 3], [0, 1, 4], [0, 2, 3], [0, 2, 4], [0, 3, 4], [1, 2, 3], [1, 2, 4], [1, 3, 4], [2, 3, 4]]

theorem filt_bag : ∀ a ∈ List.range 5, ∀ b ∈ List.range 5, ∀ d ∈ List.range 5, ofNats ((List.range 5).filter fun p => decide ((p : Int) ∈ [(a : Int), (b : Int), (d : Int)])) ∈ allBags := by decide +kernel
theorem fmod5 (x : Int) : ∃ k ∈ List.range 5, x.fmod 5 = (k : Int) := by
  have h0 : 0 ≤ x.fmod 5 := Int.fmod_nonneg_of_pos x (by decide)
  have h1 : x.fmod 5 < 5 := Int.fmod_lt_of_pos x (by decide)
  exact ⟨(x.fmod 5).toNat, List.mem_range.mpr (by omega), by omega⟩
theorem bagN_mem (x : Int) : bagN x ∈ allBags := by
  obtain ⟨a, ha, ea⟩ := fmod5 x
  obtain ⟨b, hb, eb⟩ := fmod5 (x.fdiv 5)
  obtain ⟨d, hd, ed⟩ := fmod5 (x.fdiv 25)
  unfold bagN figs
  rw [ea, eb, ed]
  exact filt_bag a ha b hb d hd

theorem bagOk_parts : ∀ b ∈ allBags, b ≠ [] ∧ b.length ≤ 3 ∧ (∀ q ∈ b, 0 ≤ q ∧ q < 5) ∧ (∀ q ∈ b, q ≤ b.getLastD 0) := by decide +kernel
theorem bagOk_of {b : List Int} (h : b ∈ allBags) : BagOk b := let ⟨h1, h2, h3, h4⟩ := bagOk_parts b h; ⟨h1, h2, h3, h4⟩

theorem bagsN_form (script : List Int) : ∃ b0 ∈ allBags, ∃ b1 ∈ allBags, ∃ b2 ∈ allBags, ∃ b3 ∈ allBags, bagsN script = [b0, b1, b2, b3] := by
  have key : ∀ y0 y1 y2 y3 : Int, ∀ r : List Int, (four.zip (y0 :: y1 :: y2 :: y3 :: r)).map (fun r => bagN (r.1 + r.2)) = [bagN (55 + y0), bagN (86 + y1), bagN (117 + y2), bagN (41 + y3)] := fun _ _ _ _ _ => rfl
  have fin : ∀ y0 y1 y2 y3 : Int, ∀ r : List Int, ysN script = y0 :: y1 :: y2 :: y3 :: r → ∃ b0 ∈ allBags, ∃ b1 ∈ allBags, ∃ b2 ∈ allBags, ∃ b3 ∈ allBags, bagsN script = [b0, b1, b2, b3] := fun y0 y1 y2 y3 r e =>
    ⟨_, bagN_mem _, _, bagN_mem _, _, bagN_mem _, _, bagN_mem _, by unfold bagsN; rw [e]; exact key y0 y1 y2 y3 r⟩
  match script with
  | [] => exact fin 0 0 0 0 [] rfl
  | [a] => exact fin a 0 0 0 [0] rfl
  | [a, b] => exact fin a b 0 0 [0, 0] rfl
  | [a, b, d] => exact fin a b d 0 [0, 0, 0] rfl
  | a :: b :: d :: e :: r => exact fin a b d e [0, 0, 0, 0] rfl

/-! Columns: the bags that hold a letter, as four bits. -/
noncomputable def has (b : List Int) (p : Nat) : Bool := decide ((p : Int) ∈ b)
noncomputable def mask (w x y z : Bool) : Nat := (if w then 1 else 0) + (if x then 2 else 0) + (if y then 4 else 0) + (if z then 8 else 0)
noncomputable def col (b0 b1 b2 b3 : List Int) (p : Nat) : Nat := mask (has b0 p) (has b1 p) (has b2 p) (has b3 p)
theorem mask_lt (w x y z : Bool) : mask w x y z < 16 := by revert w x y z; decide +kernel
noncomputable def setL (S : Nat) : List Nat := ([0, 1, 2, 3].filter fun i => S.testBit i).map (119 + ·)
theorem holder_eq (b0 b1 b2 b3 : List Int) (p : Nat) : holderN [b0, b1, b2, b3] p = setL (col b0 b1 b2 b3 p) := by
  unfold holderN col has
  show (([(119, b0), (120, b1), (121, b2), (122, b3)] : List (Nat × List Int)).filter fun r => decide ((p : Int) ∈ r.2)).map (·.1) = _
  simp only [List.filter_cons, List.filter_nil]
  cases decide ((p : Int) ∈ b0) <;> cases decide ((p : Int) ∈ b1) <;> cases decide ((p : Int) ∈ b2) <;> cases decide ((p : Int) ∈ b3) <;> rfl

noncomputable def one (b : Bool) : Int := if b then 1 else 0
theorem flen {α : Type} (f : α → Bool) : ∀ l : List α, ((l.filter f).length : Int) = (l.map fun x => one (f x)).sum
  | [] => rfl
  | a :: l => by
    rw [List.filter_cons, List.map_cons, List.sum_cons, ← flen f l]
    cases f a
    · exact (Int.zero_add _).symm
    · exact (Int.natCast_succ _).trans (Int.add_comm _ _)
theorem sum5 (a b d e f : Int) : [a, b, d, e, f].sum = a + b + d + e + f := by
  simp only [List.sum_cons, List.sum_nil, Int.add_zero, Int.add_assoc]
theorem sum4 (a b d e : Int) : [a, b, d, e].sum = a + b + d + e := by
  simp only [List.sum_cons, List.sum_nil, Int.add_zero, Int.add_assoc]
theorem sum3 (a b d : Int) : [a, b, d].sum = a + b + d := by
  simp only [List.sum_cons, List.sum_nil, Int.add_zero, Int.add_assoc]
theorem share_bags : ∀ b ∈ allBags, ∀ b' ∈ allBags, ((b.filter fun p => decide (p ∈ b')).length : Int) = one (has b 0 && has b' 0) + one (has b 1 && has b' 1) + one (has b 2 && has b' 2) + one (has b 3 && has b' 3) + one (has b 4 && has b' 4) := by decide +kernel
theorem len_bags : ∀ b ∈ allBags, (b.length : Int) = one (has b 0) + one (has b 1) + one (has b 2) + one (has b 3) + one (has b 4) := by decide +kernel

/-- the ends of the six ties -/
noncomputable def endsOf : Nat → Nat × Nat
  | 0 => (0, 1) | 1 => (0, 2) | 2 => (0, 3) | 3 => (1, 2) | 4 => (1, 3) | _ => (2, 3)
noncomputable def inTie (k S : Nat) : Bool := S.testBit (endsOf k).1 && S.testBit (endsOf k).2
theorem mask_bits (w x y z : Bool) : (mask w x y z).testBit 0 = w ∧ (mask w x y z).testBit 1 = x ∧ (mask w x y z).testBit 2 = y ∧ (mask w x y z).testBit 3 = z := by
  revert w x y z; decide +kernel

/-- shared, from five columns -/
noncomputable def shareC (c : Nat → Nat) (k : Nat) : Int := one (inTie k (c 0)) + one (inTie k (c 1)) + one (inTie k (c 2)) + one (inTie k (c 3)) + one (inTie k (c 4))
theorem shared_eq {b0 b1 b2 b3 : List Int} (h0 : b0 ∈ allBags) (h1 : b1 ∈ allBags) (h2 : b2 ∈ allBags) (h3 : b3 ∈ allBags) :
    sharedN [b0, b1, b2, b3] = [shareC (col b0 b1 b2 b3) 0, shareC (col b0 b1 b2 b3) 1, shareC (col b0 b1 b2 b3) 2, shareC (col b0 b1 b2 b3) 3, shareC (col b0 b1 b2 b3) 4, shareC (col b0 b1 b2 b3) 5] := by
  have e : sharedN [b0, b1, b2, b3] = [((b0.filter fun p => decide (p ∈ b1)).length : Int), ((b0.filter fun p => decide (p ∈ b2)).length : Int), ((b0.filter fun p => decide (p ∈ b3)).length : Int), ((b1.filter fun p => decide (p ∈ b2)).length : Int), ((b1.filter fun p => decide (p ∈ b3)).length : Int), ((b2.filter fun p => decide (p ∈ b3)).length : Int)] := rfl
  rw [e, share_bags b0 h0 b1 h1, share_bags b0 h0 b2 h2, share_bags b0 h0 b3 h3, share_bags b1 h1 b2 h2, share_bags b1 h1 b3 h3, share_bags b2 h2 b3 h3]
  unfold shareC inTie col
  simp only [endsOf, (mask_bits _ _ _ _).1, (mask_bits _ _ _ _).2.1, (mask_bits _ _ _ _).2.2.1, (mask_bits _ _ _ _).2.2.2]
end Mine
end

/-! Qb -/
section
set_option maxRecDepth 100000
set_option maxHeartbeats 4000000
namespace Mine
open PySem

/-! The sixteen trees; the heaviest of them; greedy. -/
noncomputable def triples : List (Nat × Nat × Nat) := (List.range 6).flatMap fun x => (List.range x).flatMap fun y => (List.range y).map fun z => (x, y, z)
noncomputable def trees16 : List (Nat × Nat × Nat) := triples.filter fun t => spansN tiesN t.1 t.2.1 t.2.2
noncomputable def wt (sh : List Int) (t : Nat × Nat × Nat) : Int := weightN sh t.1 t.2.1 t.2.2
noncomputable def bestW (sh : List Int) (l : List (Nat × Nat × Nat)) : Int := l.foldl (fun h t => if wt sh t > h then wt sh t else h) 0
theorem heaviest_eq (sh : List Int) : heaviestN tiesN sh = bestW sh trees16 := by
  unfold bestW trees16
  rw [List.foldl_filter]
  unfold triples
  rw [List.foldl_flatMap]
  unfold heaviestN
  congr 1
  funext h x
  rw [List.foldl_flatMap]
  congr 1
  funext h y
  rw [List.foldl_map]
  rfl

noncomputable def vec (a b d e f g : Int) : List Int := [a, b, d, e, f, g]
noncomputable abbrev V4 : List Int := [0, 1, 2, 3]
/-! The names in order: a permutation, and sorted. -/
theorem groups_perm (f : Nat → Int) : ∀ (ws : List Int), ws.Nodup → ∀ l : List Nat, (∀ k ∈ l, f k ∈ ws) → (ws.flatMap fun w => l.filter fun k => f k == w).Perm l
  | [], _, l, h => by
    have : l = [] := List.eq_nil_iff_forall_not_mem.mpr fun k hk => absurd (h k hk) List.not_mem_nil
    subst this; exact .refl _
  | w :: ws, hn, l, h => by
    have hn' := List.nodup_cons.mp hn
    rw [List.flatMap_cons]
    refine List.Perm.trans (List.Perm.append_left _ ?_) (List.filter_append_perm (fun k => f k == w) l)
    have e : (ws.flatMap fun w' => l.filter fun k => f k == w') = ws.flatMap fun w' => (l.filter fun k => !(f k == w)).filter fun k => f k == w' := by
      rw [List.flatMap_def, List.flatMap_def]
      refine congrArg List.flatten (List.map_congr_left fun w' hw' => ?_)
      rw [List.filter_filter]
      refine List.filter_congr fun k _ => ?_
      cases hk : f k == w' with
      | false => rfl
      | true =>
        have : f k ≠ w := fun q => hn'.1 (by rw [← q, eq_of_beq hk]; exact hw')
        rw [beq_eq_false_iff_ne.mpr this]; rfl
    rw [e]
    refine groups_perm f ws hn'.2 _ fun k hk => ?_
    obtain ⟨h1, h2⟩ := List.mem_filter.mp hk
    rcases List.mem_cons.mp (h k h1) with q | q
    · rw [q] at h2; simp at h2
    · exact q
noncomputable def V4d : List Int := [3, 2, 1, 0]
noncomputable def orderK (sh : List Int) : List Nat := V4d.flatMap fun w => (List.range 6).filter fun k => sh.getD k 0 == w
theorem orderK_perm {sh : List Int} (h : ∀ k ∈ List.range 6, sh.getD k 0 ∈ V4d) : (orderK sh).Perm (List.range 6) := groups_perm (fun k => sh.getD k 0) V4d (by decide) (List.range 6) h
theorem ordered_eq (sh : List Int) : orderedN sh = (orderK sh).map (nameAt sh) := by
  unfold orderK orderedN
  rw [List.map_flatMap]
  show V4d.flatMap _ = _
  rw [List.flatMap_def, List.flatMap_def]
  refine congrArg List.flatten (List.map_congr_left fun w _ => List.map_congr_left fun k hk => ?_)
  have := eq_of_beq (List.mem_filter.mp hk).2
  unfold nameAt
  rw [this]
theorem ord_perm {sh : List Int} (h : ∀ k ∈ List.range 6, sh.getD k 0 ∈ V4d) : (orderedN sh).Perm (namesN sh) := by
  rw [ordered_eq]; exact (orderK_perm h).map _
theorem names_less : V4d.Pairwise (fun w w' => ∀ k ∈ List.range 6, ∀ k' ∈ List.range 6, NotLess (nameS ((3 - w).toNat, tieAt tiesN k)) (nameS ((3 - w').toNat, tieAt tiesN k'))) := by decide +kernel
theorem names_same : ∀ w ∈ V4d, (List.range 6).Pairwise fun k k' => NotLess (nameS ((3 - w).toNat, tieAt tiesN k)) (nameS ((3 - w).toNat, tieAt tiesN k')) := by decide +kernel
theorem ord_sorted (sh : List Int) : ((orderedN sh).map nameS).Pairwise NotLess := by
  unfold orderedN
  rw [List.pairwise_map, List.pairwise_flatMap]
  refine ⟨fun w hw => ?_, ?_⟩
  · rw [List.pairwise_map]
    exact (names_same w hw).filter _
  · refine names_less.imp fun {w w'} h x hx y hy => ?_
    obtain ⟨k, hk, rfl⟩ := List.mem_map.mp hx
    obtain ⟨k', hk', rfl⟩ := List.mem_map.mp hy
    exact h k (List.mem_filter.mp hk).1 k' (List.mem_filter.mp hk').1
end Mine
end

/-! Qc -/
section
set_option maxRecDepth 100000
set_option maxHeartbeats 4000000
namespace Mine
open PySem
noncomputable def trees : List (Nat × Nat × Nat) := [(2, 1, 0), (3, 2, 0), (3, 2, 1), (4, 1, 0), (4, 2, 1), (4, 3, 0), (4, 3, 1), (4, 3, 2), (5, 1, 0), (5, 2, 0), (5, 3, 0), (5, 3, 1), (5, 3, 2), (5, 4, 0), (5, 4, 1), (5, 4, 2)]
theorem trees_eq : trees16 = trees := by decide +kernel
noncomputable def wayP (a b d : Int) : Int := wayAt a * wayAt b * wayAt d

/-! Greedy over an order of the ties: what it takes is a tree, and no tree outweighs it. -/
noncomputable def krusStep (st : List Nat × List Nat) (k : Nat) : List Nat × List Nat :=
  let one := st.1.getD (endsOf k).1 0
  let other := st.1.getD (endsOf k).2 0
  if one != other then (st.1.map (fun x => if x = other then one else x), st.2 ++ [k]) else st
noncomputable def krusN (o : List Nat) : List Nat := (o.foldl krusStep (wxyz, [])).2
theorem ends_at : ∀ k ∈ List.range 6, (tieAt tiesN k).1 - 119 = (endsOf k).1 ∧ (tieAt tiesN k).2 - 119 = (endsOf k).2 := by decide +kernel
theorem greedy_fold {sh : List Int} : ∀ (o : List Nat) (lab ch : List Nat), (∀ k ∈ o, k ∈ List.range 6 ∧ 0 ≤ sh.getD k 0 ∧ sh.getD k 0 ≤ 3) →
    ((o.map (nameAt sh)).foldl greedyStep (lab, ch.map fun k => sh.getD k 0)).2 = (o.foldl krusStep (lab, ch)).2.map fun k => sh.getD k 0
  | [], _, _, _ => rfl
  | k :: o, lab, ch, h => by
    obtain ⟨h1, h2, h3⟩ := h k (.head _)
    have h' := fun x hx => h x (List.Mem.tail k hx)
    obtain ⟨e1, e2⟩ := ends_at k h1
    rw [List.map_cons, List.foldl_cons, List.foldl_cons]
    have step : greedyStep (lab, ch.map fun k => sh.getD k 0) (nameAt sh k) = ((krusStep (lab, ch) k).1, (krusStep (lab, ch) k).2.map fun k => sh.getD k 0) := by
      unfold greedyStep krusStep nameAt
      simp only [e1, e2]
      split
      · rw [List.map_append, List.map_cons, List.map_nil]
        have : (3 : Int) - (((3 - sh.getD k 0).toNat : Nat) : Int) = sh.getD k 0 := by omega
        rw [this]
      · rfl
    rw [step]
    exact greedy_fold o _ _ h'
theorem greedy_krus {sh : List Int} {o : List Nat} (h : ∀ k ∈ o, k ∈ List.range 6 ∧ 0 ≤ sh.getD k 0 ∧ sh.getD k 0 ≤ 3) : greedyN (o.map (nameAt sh)) = (krusN o).map fun k => sh.getD k 0 := greedy_fold o wxyz [] h

noncomputable def inT (t : Nat × Nat × Nat) (k : Nat) : Bool := Nat.beq k t.1 || (Nat.beq k t.2.1 || Nat.beq k t.2.2)
noncomputable def scanB (f g : Nat → Bool) : List Nat → Nat → Bool
  | [], _ => true
  | k :: o, m => bif g k then (bif f k then scanB f g o m else scanB f g o (m + 1)) else (bif f k then (match m with | 0 => false | m + 1 => scanB f g o m) else scanB f g o m)
theorem mul_mono (m : Nat) {a b : Int} (h : a ≤ b) : (m : Int) * a ≤ m * b := Int.mul_le_mul_of_nonneg_left h (Int.natCast_nonneg m)
theorem scan_le {f g : Nat → Bool} {v : Nat → Int} : ∀ (o : List Nat) (m : Nat) (G : Int), (∀ k ∈ o, 0 ≤ v k ∧ v k ≤ G) → o.Pairwise (fun k k' => v k' ≤ v k) → scanB f g o m = true → 0 ≤ G →
    ((o.filter f).map v).sum ≤ ((o.filter g).map v).sum + m * G
  | [], m, G, _, _, _, hG => by
    show (0 : Int) ≤ 0 + m * G
    have := Int.mul_nonneg (Int.natCast_nonneg m) hG
    omega
  | k :: o, m, G, hv, hp, hs, hG => by
    obtain ⟨k0, kG⟩ := hv k (.head _)
    have hp' := List.pairwise_cons.mp hp
    have hv' : ∀ x ∈ o, 0 ≤ v x ∧ v x ≤ v k := fun x hx => ⟨(hv x (.tail _ hx)).1, hp'.1 x hx⟩
    have mono := mul_mono m kG
    unfold scanB at hs
    rw [List.filter_cons, List.filter_cons]
    cases hg : g k <;> cases hf : f k <;> rw [hg, hf] at hs
    · have := scan_le o m (v k) hv' hp'.2 hs k0
      simp only [Bool.false_eq_true, if_false]
      omega
    · match m, hs, mono with
      | m + 1, hs, mono =>
        have := scan_le o m (v k) hv' hp'.2 hs k0
        simp only [Bool.false_eq_true, if_false, if_true, List.map_cons, List.sum_cons]
        have e : ((m + 1 : Nat) : Int) * v k = m * v k + v k := by rw [Int.natCast_add, Int.add_mul]; simp
        omega
    · have := scan_le o (m + 1) (v k) hv' hp'.2 hs k0
      simp only [Bool.false_eq_true, if_false, if_true, List.map_cons, List.sum_cons]
      have e : ((m + 1 : Nat) : Int) * v k = m * v k + v k := by rw [Int.natCast_add, Int.add_mul]; simp
      omega
    · have := scan_le o m (v k) hv' hp'.2 hs k0
      simp only [if_true, List.map_cons, List.sum_cons]
      omega

noncomputable def permsR (P : List Nat → Bool) : Nat → List Nat → List Nat → Bool
  | 0, _, acc => P acc
  | n + 1, rem, acc => rem.all fun a => permsR P n (rem.erase a) (acc ++ [a])
theorem permsR_sound {P : List Nat → Bool} : ∀ (n : Nat) (rem acc : List Nat), permsR P n rem acc = true → ∀ o : List Nat, o.length = n → o.Perm rem → P (acc ++ o) = true
  | 0, rem, acc, h, o, hl, _ => by
    have : o = [] := List.eq_nil_of_length_eq_zero hl
    subst this
    rw [List.append_nil]; exact h
  | n + 1, rem, acc, h, o, hl, hp => by
    match o, hl with
    | a :: o, hl =>
      have ha : a ∈ rem := hp.mem_iff.mp (.head _)
      have hp' := (List.cons_perm_iff_perm_erase.mp hp).2
      have h' := List.all_eq_true.mp h a ha
      have k := permsR_sound n (rem.erase a) (acc ++ [a]) h' o (by simpa using hl) hp'
      rw [List.append_assoc] at k
      exact k
noncomputable def leafB (o : List Nat) : Bool :=
  (fun ch => (trees.any fun t => [t.1, t.2.1, t.2.2].isPerm ch) && ((trees.all fun t => scanB (inT t) (fun k => ch.contains k) o 0) && decide ((o.filter fun k => ch.contains k) = ch))) (krusN o)
theorem leaves : permsR leafB 6 [0, 1, 2, 3, 4, 5] [] = true := by decide +kernel
theorem tree_ties : ∀ t ∈ trees, (List.range 6).filter (inT t) = [t.2.2, t.2.1, t.1] := by decide +kernel
theorem sum_perm {l m : List Int} (h : l.Perm m) : l.sum = m.sum := by
  induction h with
  | nil => rfl
  | cons x _ ih => rw [List.sum_cons, List.sum_cons, ih]
  | swap x y l => simp only [List.sum_cons]; omega
  | trans _ _ ih1 ih2 => exact ih1.trans ih2
noncomputable def prodI (l : List Int) : Int := l.foldr (· * ·) 1
theorem prodI_perm {l m : List Int} (h : l.Perm m) : prodI l = prodI m := by
  induction h with
  | nil => rfl
  | cons x _ ih => exact congrArg (x * ·) ih
  | swap x y l => exact Int.mul_left_comm y x (prodI l)
  | trans _ _ ih1 ih2 => exact ih1.trans ih2
theorem prodI3 (a b d : Int) : prodI [a, b, d] = a * b * d := by
  show a * (b * (d * 1)) = _
  rw [Int.mul_one, Int.mul_assoc]

structure GreedyOk (sh : List Int) (a b d : Int) : Prop where
  eq : greedyN (orderedN sh) = [a, b, d]
  best : ∀ t ∈ trees, wt sh t ≤ a + b + d
  some : ∃ t ∈ trees, wt sh t = a + b + d ∧ wayP a b d = wayP (sh.getD t.1 0) (sh.getD t.2.1 0) (sh.getD t.2.2 0)
  rng : (0 ≤ a ∧ a ≤ 3) ∧ (0 ≤ b ∧ b ≤ 3) ∧ (0 ≤ d ∧ d ≤ 3)
theorem orderK_sorted (sh : List Int) : (orderK sh).Pairwise fun k k' => sh.getD k' 0 ≤ sh.getD k 0 := by
  unfold orderK
  rw [List.pairwise_flatMap]
  refine ⟨fun w _ => ?_, ?_⟩
  · refine List.Pairwise.imp_of_mem (R := fun _ _ => True) (fun {a b} ha hb _ => ?_) (List.pairwise_of_forall fun _ _ => trivial)
    rw [eq_of_beq (List.mem_filter.mp ha).2, eq_of_beq (List.mem_filter.mp hb).2]
    exact Int.le_refl w
  · refine (show V4d.Pairwise (fun w w' => w' ≤ w) by decide).imp fun {w w'} h x hx y hy => ?_
    rw [eq_of_beq (List.mem_filter.mp hx).2, eq_of_beq (List.mem_filter.mp hy).2]
    exact h
theorem greedy_ok {sh : List Int} (h : ∀ k, k < 6 → 0 ≤ sh.getD k 0 ∧ sh.getD k 0 ≤ 3) (hd : ∀ k ∈ List.range 6, sh.getD k 0 ∈ V4d) : ∃ a b d, GreedyOk sh a b d := by
  have hp := orderK_perm hd
  have hlen : (orderK sh).length = 6 := hp.length_eq
  have hb := permsR_sound 6 [0, 1, 2, 3, 4, 5] [] leaves (orderK sh) hlen hp
  rw [List.nil_append] at hb
  unfold leafB at hb
  simp only [Bool.and_eq_true, decide_eq_true_eq] at hb
  obtain ⟨b1, b2, b3⟩ := hb
  have hm : ∀ k ∈ orderK sh, k ∈ List.range 6 ∧ 0 ≤ sh.getD k 0 ∧ sh.getD k 0 ≤ 3 := fun k hk => by
    have h6 := hp.mem_iff.mp hk
    exact ⟨h6, h k (List.mem_range.mp h6)⟩
  obtain ⟨t, ht, tp⟩ := List.any_eq_true.mp b1
  have tp := List.isPerm_iff.mp tp
  have hl3 : (krusN (orderK sh)).length = 3 := tp.length_eq.symm
  have hmem : ∀ k ∈ krusN (orderK sh), k ∈ orderK sh := fun k hk => by
    rw [← b3] at hk; exact (List.mem_filter.mp hk).1
  generalize hch : krusN (orderK sh) = ch at *
  match ch, hl3 with
  | [x, y, z], _ =>
    refine ⟨sh.getD x 0, sh.getD y 0, sh.getD z 0, ?_, ?_, ?_, (hm x (hmem x (by simp))).2, (hm y (hmem y (by simp))).2, (hm z (hmem z (by simp))).2⟩
    · rw [ordered_eq, greedy_krus hm, hch]; rfl
    · intro t' ht'
      have s := scan_le (v := fun k => sh.getD k 0) (orderK sh) 0 3 (fun k hk => (hm k hk).2) (orderK_sorted sh) (List.all_eq_true.mp b2 t' ht') (by decide)
      have p := sum_perm ((hp.filter (inT t')).map fun k => sh.getD k 0)
      rw [tree_ties t' ht'] at p
      rw [p, b3] at s
      unfold wt weightN
      simp only [List.map_cons, List.map_nil, List.sum_cons, List.sum_nil] at s
      omega
    · refine ⟨t, ht, ?_, ?_⟩
      · have p := sum_perm (tp.map fun k => sh.getD k 0)
        unfold wt weightN
        simp only [List.map_cons, List.map_nil, List.sum_cons, List.sum_nil] at p
        omega
      · have p := prodI_perm (tp.map fun k => wayAt (sh.getD k 0))
        have p' : prodI [wayAt (sh.getD t.1 0), wayAt (sh.getD t.2.1 0), wayAt (sh.getD t.2.2 0)] = prodI [wayAt (sh.getD x 0), wayAt (sh.getD y 0), wayAt (sh.getD z 0)] := p
        rw [prodI3, prodI3] at p'
        exact p'.symm
end Mine
end

/-! Qd -/
section
set_option maxRecDepth 100000
set_option maxHeartbeats 4000000
namespace Mine
open PySem
noncomputable def eT (t : Nat × Nat × Nat) (S : Nat) : Int := one (inTie t.1 S) + one (inTie t.2.1 S) + one (inTie t.2.2 S)
noncomputable def bits (S : Nat) : Int := one (S.testBit 0) + one (S.testBit 1) + one (S.testBit 2) + one (S.testBit 3)
noncomputable def mS (S : Nat) : Int := bits S - one (S != 0)
noncomputable def hangB (t : Nat × Nat × Nat) (S : Nat) : Bool := hangsN (treeAt tiesN t.1 t.2.1 t.2.2) (setL S)
theorem tree_col : ∀ t ∈ trees, ∀ S ∈ List.range 16, eT t S ≤ mS S ∧ hangB t S = decide (eT t S = mS S) := by decide +kernel
theorem setL_len : ∀ S ∈ List.range 16, (setL S).length ≤ 4 ∧ (setL S).isEmpty = (S == 0) := by decide +kernel
end Mine
end

/-! Qe -/
section
set_option maxRecDepth 100000
set_option maxHeartbeats 4000000
namespace Mine
open PySem

section
variable {b0 b1 b2 b3 : List Int}
theorem col_lt (p : Nat) : col b0 b1 b2 b3 p ∈ List.range 16 := List.mem_range.mpr (mask_lt _ _ _ _)
theorem bits_col (p : Nat) : bits (col b0 b1 b2 b3 p) = one (has b0 p) + one (has b1 p) + one (has b2 p) + one (has b3 p) := by
  unfold bits col
  obtain ⟨m0, m1, m2, m3⟩ := mask_bits (has b0 p) (has b1 p) (has b2 p) (has b3 p)
  rw [m0, m1, m2, m3]
theorem holders_eq : holdersN [b0, b1, b2, b3] = [setL (col b0 b1 b2 b3 0), setL (col b0 b1 b2 b3 1), setL (col b0 b1 b2 b3 2), setL (col b0 b1 b2 b3 3), setL (col b0 b1 b2 b3 4)] := by
  show [holderN _ 0, holderN _ 1, holderN _ 2, holderN _ 3, holderN _ 4] = _
  simp only [holder_eq]
theorem held_count (a b d e f : List Nat) : ((([a, b, d, e, f].filter fun h => !h.isEmpty).length : Nat) : Int) = one (!a.isEmpty) + one (!b.isEmpty) + one (!d.isEmpty) + one (!e.isEmpty) + one (!f.isEmpty) := by
  rw [flen]; exact sum5 _ _ _ _ _
theorem most_eq (h0 : b0 ∈ allBags) (h1 : b1 ∈ allBags) (h2 : b2 ∈ allBags) (h3 : b3 ∈ allBags) :
    mostN [b0, b1, b2, b3] = mS (col b0 b1 b2 b3 0) + mS (col b0 b1 b2 b3 1) + mS (col b0 b1 b2 b3 2) + mS (col b0 b1 b2 b3 3) + mS (col b0 b1 b2 b3 4) := by
  have e : mostN [b0, b1, b2, b3] = ((b0.length : Int) + ((b1.length : Int) + ((b2.length : Int) + ((b3.length : Int) + 0)))) - (((holdersN [b0, b1, b2, b3]).filter fun h => !h.isEmpty).length : Int) := rfl
  rw [e, holders_eq, held_count, len_bags b0 h0, len_bags b1 h1, len_bags b2 h2, len_bags b3 h3]
  unfold mS
  rw [bits_col, bits_col, bits_col, bits_col, bits_col]
  have q : ∀ p, one (!(setL (col b0 b1 b2 b3 p)).isEmpty) = one (col b0 b1 b2 b3 p != 0) := fun p => by
    rw [(setL_len _ (col_lt p)).2]; rfl
  rw [q, q, q, q, q]
  omega
theorem shared_at (h0 : b0 ∈ allBags) (h1 : b1 ∈ allBags) (h2 : b2 ∈ allBags) (h3 : b3 ∈ allBags) {k : Nat} (hk : k < 6) : (sharedN [b0, b1, b2, b3]).getD k 0 = shareC (col b0 b1 b2 b3) k := by
  rw [shared_eq h0 h1 h2 h3]
  match k, hk with
  | 0, _ => rfl
  | 1, _ => rfl
  | 2, _ => rfl
  | 3, _ => rfl
  | 4, _ => rfl
  | 5, _ => rfl
theorem tree_memB : ((List.range 6).all fun x => (List.range x).all fun y => (List.range y).all fun z => !spansN tiesN x y z || trees.contains (x, y, z)) = true := by decide +kernel
theorem tree_mem (x : Nat) (hx : x < 6) (y : Nat) (hy : y < x) (z : Nat) (hz : z < y) (h : spansN tiesN x y z = true) : (x, y, z) ∈ trees := by
  have h1 := List.all_eq_true.mp (List.all_eq_true.mp (List.all_eq_true.mp tree_memB x (List.mem_range.mpr hx)) y (List.mem_range.mpr hy)) z (List.mem_range.mpr hz)
  rw [h] at h1
  simpa using h1
theorem tree_lt : ∀ t ∈ trees, t.1 < 6 ∧ t.2.1 < 6 ∧ t.2.2 < 6 := by decide
theorem wt_eq (h0 : b0 ∈ allBags) (h1 : b1 ∈ allBags) (h2 : b2 ∈ allBags) (h3 : b3 ∈ allBags) {t : Nat × Nat × Nat} (ht : t ∈ trees) :
    wt (sharedN [b0, b1, b2, b3]) t = eT t (col b0 b1 b2 b3 0) + eT t (col b0 b1 b2 b3 1) + eT t (col b0 b1 b2 b3 2) + eT t (col b0 b1 b2 b3 3) + eT t (col b0 b1 b2 b3 4) := by
  obtain ⟨l1, l2, l3⟩ := tree_lt t ht
  unfold wt weightN
  rw [shared_at h0 h1 h2 h3 l1, shared_at h0 h1 h2 h3 l2, shared_at h0 h1 h2 h3 l3]
  unfold shareC eT
  omega
/-- all letters hang in the tree -/
noncomputable def hangAll (b0 b1 b2 b3 : List Int) (t : Nat × Nat × Nat) : Bool := hangB t (col b0 b1 b2 b3 0) && hangB t (col b0 b1 b2 b3 1) && hangB t (col b0 b1 b2 b3 2) && hangB t (col b0 b1 b2 b3 3) && hangB t (col b0 b1 b2 b3 4)
theorem wt_most (h0 : b0 ∈ allBags) (h1 : b1 ∈ allBags) (h2 : b2 ∈ allBags) (h3 : b3 ∈ allBags) {t : Nat × Nat × Nat} (ht : t ∈ trees) :
    wt (sharedN [b0, b1, b2, b3]) t ≤ mostN [b0, b1, b2, b3] ∧ (wt (sharedN [b0, b1, b2, b3]) t == mostN [b0, b1, b2, b3]) = hangAll b0 b1 b2 b3 t := by
  rw [wt_eq h0 h1 h2 h3 ht, most_eq h0 h1 h2 h3]
  obtain ⟨a0, e0⟩ := tree_col t ht _ (col_lt (b0 := b0) (b1 := b1) (b2 := b2) (b3 := b3) 0)
  obtain ⟨a1, e1⟩ := tree_col t ht _ (col_lt (b0 := b0) (b1 := b1) (b2 := b2) (b3 := b3) 1)
  obtain ⟨a2, e2⟩ := tree_col t ht _ (col_lt (b0 := b0) (b1 := b1) (b2 := b2) (b3 := b3) 2)
  obtain ⟨a3, e3⟩ := tree_col t ht _ (col_lt (b0 := b0) (b1 := b1) (b2 := b2) (b3 := b3) 3)
  obtain ⟨a4, e4⟩ := tree_col t ht _ (col_lt (b0 := b0) (b1 := b1) (b2 := b2) (b3 := b3) 4)
  unfold hangAll
  rw [e0, e1, e2, e3, e4]
  refine ⟨by omega, ?_⟩
  rw [Bool.eq_iff_iff]
  simp only [beq_iff_eq, Bool.and_eq_true, decide_eq_true_eq]
  omega

theorem good_of (h0 : b0 ∈ allBags) (h1 : b1 ∈ allBags) (h2 : b2 ∈ allBags) (h3 : b3 ∈ allBags) : HvOk tiesN (sharedN [b0, b1, b2, b3]) (holdersN [b0, b1, b2, b3]) (mostN [b0, b1, b2, b3]) := by
  refine ⟨rfl, rfl, fun h hh => ?_, fun x y z hx hy hz hsp => ?_⟩
  · rw [holders_eq] at hh
    simp only [List.mem_cons, List.not_mem_nil, or_false] at hh
    rcases hh with rfl | rfl | rfl | rfl | rfl <;> exact (setL_len _ (col_lt _)).1
  · obtain ⟨q1, q2⟩ := wt_most h0 h1 h2 h3 (tree_mem x hx y hy z hz hsp)
    refine ⟨Int.not_lt.mpr q1, ?_⟩
    rw [holders_eq]
    refine q2.trans ?_
    unfold allHang hangAll hangB
    simp only [List.foldl_cons, List.foldl_nil, Bool.true_and]
end
end Mine
end

/-! Qf -/
section
set_option maxRecDepth 100000
set_option maxHeartbeats 4000000
namespace Mine
open PySem

section
variable {b0 b1 b2 b3 : List Int}
/-- two letters share a bag -/
noncomputable def adj (b0 b1 b2 b3 : List Int) (p q : Nat) : Bool := (col b0 b1 b2 b3 p &&& col b0 b1 b2 b3 q) != 0
theorem mask_and (w x y z w' x' y' z' : Bool) : ((mask w x y z &&& mask w' x' y' z') != 0) = ((w && w') || (x && x') || (y && y') || (z && z')) := by
  revert w x y z w' x' y' z'; decide +kernel
theorem isEmpty_filter {α : Type} (f : α → Bool) : ∀ l : List α, (l.filter f).isEmpty = !l.any f
  | [] => rfl
  | a :: l => by
    rw [List.filter_cons, List.any_cons]
    cases f a
    · exact isEmpty_filter f l
    · rfl
theorem both_empty (p q : Nat) : (bothN [b0, b1, b2, b3] p q).isEmpty = !adj b0 b1 b2 b3 p q := by
  unfold bothN adj col
  rw [mask_and, isEmpty_filter]
  simp only [List.any_cons, List.any_nil, Bool.and_true, Bool.or_false, Bool.or_assoc]
  rfl
theorem near_mem {p q : Nat} (hp : p < 5) (hq : q < 5) : decide ((q : Int) ∈ (nearAll [b0, b1, b2, b3]).getD p []) = ((q != p) && adj b0 b1 b2 b3 p q) := by
  have e : (nearAll [b0, b1, b2, b3]).getD p [] = nearN [b0, b1, b2, b3] p := by
    unfold nearAll
    rw [List.getD_eq_getElem?_getD, List.getElem?_map, List.getElem?_range hp]; rfl
  rw [e]
  unfold nearN ofNats
  rw [Bool.eq_iff_iff]
  simp only [decide_eq_true_eq, List.mem_map, List.mem_filter, List.mem_range, both_empty, Bool.not_not, Bool.and_true, Bool.and_eq_true, bne_iff_ne, ne_eq]
  constructor
  · rintro ⟨k, ⟨h1, h2, h3⟩, h4⟩
    have : k = q := by omega
    subst this
    exact ⟨fun h => h2 (by rw [h]), h3⟩
  · rintro ⟨h1, h2⟩
    exact ⟨q, ⟨hq, by omega, h2⟩, rfl⟩
end
end Mine
end

/-! Qg -/
section
set_option maxRecDepth 100000
set_option maxHeartbeats 4000000
namespace Mine
open PySem

/-! Subtrees of a tree on four: Helly, and no ring of four. -/
noncomputable def hangers (t : Nat × Nat × Nat) : List Nat := (List.range 16).filter fun S => hangB t S
theorem hang_and : ∀ t ∈ trees, ∀ A ∈ hangers t, ∀ B ∈ hangers t, (A &&& B) ∈ hangers t := by decide +kernel
theorem helly3 : ∀ t ∈ trees, ∀ A ∈ hangers t, ∀ B ∈ hangers t, (A &&& B) ≠ 0 → ∀ C ∈ hangers t, (A &&& C) ≠ 0 → (B &&& C) ≠ 0 → (A &&& B &&& C) ≠ 0 := by decide +kernel
theorem ring4 : ∀ t ∈ trees, ∀ A ∈ hangers t, ∀ C ∈ hangers t, (A &&& C) = 0 → ∀ B ∈ hangers t, (A &&& B) ≠ 0 → (C &&& B) ≠ 0 → ∀ D ∈ hangers t, (A &&& D) ≠ 0 → (C &&& D) ≠ 0 → (B &&& D) ≠ 0 := by decide +kernel
end Mine
end

/-! Qh -/
section
set_option maxRecDepth 100000
set_option maxHeartbeats 4000000
namespace Mine
open PySem

section
variable {b0 b1 b2 b3 : List Int}
noncomputable def hereL (s : Nat) : List Nat := (List.range 5).filter fun p => Builtin.bitAnd ((s : Int).fdiv (2 ^ (p : Int).toNat)) 1 != 0
noncomputable def degL (b0 b1 b2 b3 : List Int) (l : List Nat) (p : Nat) : Int := ((l.filter fun q => (q != p) && adj b0 b1 b2 b3 p q).length : Int)
noncomputable def coverB (b0 b1 b2 b3 : List Int) (l : List Nat) : Bool := l.all (has b0) || l.all (has b1) || l.all (has b2) || l.all (has b3)
noncomputable def badL (b0 b1 b2 b3 : List Int) (l : List Nat) : Bool :=
  decide (l.map (degL b0 b1 b2 b3 l) = [2, 2, 2, 2]) || (decide ((2 : Int) < l.length) && (decide (l.map (degL b0 b1 b2 b3 l) = List.replicate l.length ((l.length : Int) - 1)) && true) && !coverB b0 b1 b2 b3 l)

theorem met_eq {l : List Nat} (hl : ∀ p ∈ l, p < 5) : metN (nearAll [b0, b1, b2, b3]) (ofNats l) = l.map (degL b0 b1 b2 b3 l) := by
  unfold metN ofNats
  rw [List.map_map]
  refine List.map_congr_left fun p hp => ?_
  show (((l.map fun k : Nat => (k : Int)).filter fun q => decide (q ∈ (nearAll [b0, b1, b2, b3]).getD ((p : Int)).toNat [])).length : Int) = _
  unfold degL
  rw [Int.toNat_natCast, List.filter_map, List.length_map]
  congr 2
  refine List.filter_congr fun q hq => ?_
  exact near_mem (hl p hp) (hl q hq)
theorem filt_empty (b : List Int) (l : List Nat) : ((ofNats l).filter fun p => !decide (p ∈ b)).isEmpty = l.all (has b) := by
  induction l with
  | nil => rfl
  | cons a l ih =>
    show (((a : Int) :: ofNats l).filter fun p => !decide (p ∈ b)).isEmpty = (has b a && l.all (has b))
    rw [List.filter_cons, ← ih]
    unfold has
    cases decide ((a : Int) ∈ b) <;> simp
theorem cover_eq (l : List Nat) : (coverN [b0, b1, b2, b3] (ofNats l)).isEmpty = !coverB b0 b1 b2 b3 l := by
  unfold coverN coverB
  simp only [List.filter_cons, List.filter_nil, filt_empty]
  cases l.all (has b0) <;> cases l.all (has b1) <;> cases l.all (has b2) <;> cases l.all (has b3) <;> rfl
theorem hereL_lt (s : Nat) : ∀ p ∈ hereL s, p < 5 := fun p hp => List.mem_range.mp (List.mem_filter.mp hp).1
theorem bad_eq (s : Nat) : badN [b0, b1, b2, b3] s = badL b0 b1 b2 b3 (hereL s) := by
  unfold badN badL
  have e : hereN s = ofNats (hereL s) := rfl
  rw [e, met_eq (hereL_lt s), cover_eq]
  have el : (ofNats (hereL s)).length = (hereL s).length := by unfold ofNats; rw [List.length_map]
  rw [el]
theorem noRing_eq : noRingN [b0, b1, b2, b3] = (List.range 32).all fun s => !badL b0 b1 b2 b3 (hereL s) := by
  unfold noRingN
  simp only [bad_eq]
end
end Mine
end

/-! Qi -/
section
set_option maxRecDepth 100000
set_option maxHeartbeats 4000000
namespace Mine
open PySem

section
variable {b0 b1 b2 b3 : List Int} {t : Nat × Nat × Nat}
theorem mask_land (w x y z w' x' y' z' : Bool) : (mask w x y z &&& mask w' x' y' z') = mask (w && w') (x && x') (y && y') (z && z') := by
  revert w x y z w' x' y' z'; decide +kernel
noncomputable def andL (c : Nat → Nat) (l : List Nat) : Nat := l.foldr (fun p a => c p &&& a) 15
theorem andL_mask (l : List Nat) : andL (col b0 b1 b2 b3) l = mask (l.all (has b0)) (l.all (has b1)) (l.all (has b2)) (l.all (has b3)) := by
  induction l with
  | nil => rfl
  | cons p l ih =>
    show (col b0 b1 b2 b3 p &&& andL _ l) = _
    rw [ih]
    unfold col
    rw [mask_land]
    rfl
theorem mask_ne (w x y z : Bool) : (mask w x y z != 0) = (w || x || y || z) := by revert w x y z; decide +kernel
theorem cover_and (l : List Nat) : coverB b0 b1 b2 b3 l = (andL (col b0 b1 b2 b3) l != 0) := by
  rw [andL_mask, mask_ne]; rfl

theorem helly (ht : t ∈ trees) {c : Nat → Nat} : ∀ (l : List Nat) (S : Nat), S ∈ hangers t → (∀ p ∈ l, c p ∈ hangers t) → (∀ p ∈ l, (S &&& c p) ≠ 0) → l.Pairwise (fun p q => (c p &&& c q) ≠ 0) → S ≠ 0 → S < 16 → (S &&& andL c l) ≠ 0
  | [], S, hS, _, _, _, h0, h16 => by
    show (S &&& 15) ≠ 0
    have : ∀ S, S < 16 → (S &&& 15) = S := by decide
    rw [this S h16]; exact h0
  | p :: l, S, hS, hc, hp, hw, h0, h16 => by
    show (S &&& (c p &&& andL c l)) ≠ 0
    rw [← Nat.and_assoc]
    have hw' := List.pairwise_cons.mp hw
    have hSp := hang_and t ht S hS (c p) (hc p (.head _))
    refine helly ht l (S &&& c p) hSp (fun q hq => hc q (.tail _ hq)) (fun q hq => ?_) hw'.2 (hp p (.head _)) ?_
    · exact helly3 t ht S hS (c p) (hc p (.head _)) (hp p (.head _)) (c q) (hc q (.tail _ hq)) (hp q (.tail _ hq)) (hw'.1 q hq)
    · exact Nat.lt_of_le_of_lt Nat.and_le_left h16
end
end Mine
end

/-! Qj -/
section
set_option maxRecDepth 100000
set_option maxHeartbeats 4000000
namespace Mine
open PySem

section
variable {b0 b1 b2 b3 : List Int} {t : Nat × Nat × Nat}
theorem hangers_of (hh : hangAll b0 b1 b2 b3 t = true) : ∀ p, p < 5 → col b0 b1 b2 b3 p ∈ hangers t := by
  unfold hangAll at hh
  simp only [Bool.and_eq_true] at hh
  obtain ⟨⟨⟨⟨h0, h1⟩, h2⟩, h3⟩, h4⟩ := hh
  intro p hp
  have : p = 0 ∨ p = 1 ∨ p = 2 ∨ p = 3 ∨ p = 4 := by omega
  rcases this with rfl | rfl | rfl | rfl | rfl
  · exact List.mem_filter.mpr ⟨col_lt 0, h0⟩
  · exact List.mem_filter.mpr ⟨col_lt 1, h1⟩
  · exact List.mem_filter.mpr ⟨col_lt 2, h2⟩
  · exact List.mem_filter.mpr ⟨col_lt 3, h3⟩
  · exact List.mem_filter.mpr ⟨col_lt 4, h4⟩
theorem hereL_nodup (s : Nat) : (hereL s).Nodup := List.Pairwise.filter _ List.nodup_range
theorem adj_ne {p q : Nat} (h : adj b0 b1 b2 b3 p q = true) : (col b0 b1 b2 b3 p &&& col b0 b1 b2 b3 q) ≠ 0 := by simpa [adj] using h
theorem full_deg {l : List Nat} (hn : l.Nodup) {p : Nat} (hp : p ∈ l) (h : degL b0 b1 b2 b3 l p = (l.length : Int) - 1) : ∀ q ∈ l, q ≠ p → adj b0 b1 b2 b3 p q = true := by
  have h1 : (l.filter fun q => (q != p) && adj b0 b1 b2 b3 p q) = (l.filter fun q => q != p).filter fun q => adj b0 b1 b2 b3 p q := by
    rw [List.filter_filter]
    refine List.filter_congr fun q _ => Bool.and_comm _ _
  have h2 : (l.filter fun q => q != p).length = l.length - 1 := by
    rw [← List.Nodup.erase_eq_filter hn, List.length_erase_of_mem hp]
  unfold degL at h
  rw [h1] at h
  have h3 : 0 < l.length := List.length_pos_of_mem hp
  have h4 : ((l.filter fun q => q != p).filter fun q => adj b0 b1 b2 b3 p q).length = (l.filter fun q => q != p).length := by omega
  have h5 := List.length_filter_eq_length_iff.mp h4
  intro q hq hne
  exact h5 q (List.mem_filter.mpr ⟨hq, by simpa using hne⟩)

theorem clique_cover (ht : t ∈ trees) (hh : hangAll b0 b1 b2 b3 t = true) {l : List Nat} (hl : ∀ p ∈ l, p < 5) (hn : l.Nodup) (h2 : 2 < l.length) (h : ∀ p ∈ l, ∀ q ∈ l, q ≠ p → adj b0 b1 b2 b3 p q = true) : coverB b0 b1 b2 b3 l = true := by
  rw [cover_and]
  match l, h2 with
  | p :: q :: r, _ =>
    have hc := hangers_of hh
    have hn' := List.nodup_cons.mp hn
    have hpw : (p :: q :: r).Pairwise (fun a b => (col b0 b1 b2 b3 a &&& col b0 b1 b2 b3 b) ≠ 0) := by
      refine List.Pairwise.imp_of_mem ?_ hn
      intro a b ha hb hab
      exact adj_ne (h a ha b hb (fun e => hab e.symm))
    have hw := List.pairwise_cons.mp hpw
    have key := helly ht (c := col b0 b1 b2 b3) (q :: r) (col b0 b1 b2 b3 p) (hc p (hl p (.head _))) (fun x hx => hc x (hl x (.tail _ hx))) (fun x hx => hw.1 x hx) hw.2
      (fun e => hw.1 q (.head _) (by rw [e]; simp)) (mask_lt _ _ _ _)
    simpa [andL] using key

set_option synthInstance.maxSize 20000 in
set_option synthInstance.maxHeartbeats 0 in
theorem ring_bools : ∀ pq pr ps qr qs rs : Bool, one pq + one pr + one ps = 2 → one pq + one qr + one qs = 2 → one pr + one qr + one rs = 2 → one ps + one qs + one rs = 2 →
    (pq = false ∧ rs = false ∧ pr = true ∧ ps = true ∧ qr = true ∧ qs = true) ∨ (pr = false ∧ qs = false ∧ pq = true ∧ ps = true ∧ qr = true ∧ rs = true) ∨ (ps = false ∧ qr = false ∧ pq = true ∧ pr = true ∧ qs = true ∧ rs = true) := by
  decide +kernel
theorem adj_symm (p q : Nat) : adj b0 b1 b2 b3 p q = adj b0 b1 b2 b3 q p := by unfold adj; rw [Nat.and_comm]

theorem deg3 (p q r x : Nat) : degL b0 b1 b2 b3 [p, q, r] x = one ((p != x) && adj b0 b1 b2 b3 x p) + one ((q != x) && adj b0 b1 b2 b3 x q) + one ((r != x) && adj b0 b1 b2 b3 x r) := by
  unfold degL
  rw [flen]; exact sum3 _ _ _
theorem deg4 (p q r s x : Nat) : degL b0 b1 b2 b3 [p, q, r, s] x = one ((p != x) && adj b0 b1 b2 b3 x p) + one ((q != x) && adj b0 b1 b2 b3 x q) + one ((r != x) && adj b0 b1 b2 b3 x r) + one ((s != x) && adj b0 b1 b2 b3 x s) := by
  unfold degL
  rw [flen]; exact sum4 _ _ _ _
theorem no_ring4 (ht : t ∈ trees) (hh : hangAll b0 b1 b2 b3 t = true) {l : List Nat} (hl : ∀ p ∈ l, p < 5) (hn : l.Nodup) : l.map (degL b0 b1 b2 b3 l) ≠ [2, 2, 2, 2] := by
  intro h
  have hlen : l.length = 4 := by have := congrArg List.length h; simpa using this
  match l, hlen with
  | [p, q, r, s], _ =>
    have hc := hangers_of hh
    simp only [List.nodup_cons, List.mem_cons, List.not_mem_nil, or_false, not_or, List.nodup_nil, and_true, not_false_eq_true] at hn
    obtain ⟨⟨npq, npr, nps⟩, ⟨nqr, nqs⟩, nrs⟩ := hn
    have pp := hc p (hl p (by simp))
    have pq' := hc q (hl q (by simp))
    have pr' := hc r (hl r (by simp))
    have ps' := hc s (hl s (by simp))
    have deg4 : ∀ x, degL b0 b1 b2 b3 [p, q, r, s] x = one ((p != x) && adj b0 b1 b2 b3 x p) + one ((q != x) && adj b0 b1 b2 b3 x q) + one ((r != x) && adj b0 b1 b2 b3 x r) + one ((s != x) && adj b0 b1 b2 b3 x s) := deg4 p q r s
    simp only [List.map_cons, List.map_nil, List.cons.injEq, and_true] at h
    obtain ⟨e1, e2, e3, e4⟩ := h
    rw [deg4] at e1 e2 e3 e4
    have b : ∀ {x y : Nat}, x ≠ y → (x != y) = true := fun h => bne_iff_ne.mpr h
    have b' : ∀ x : Nat, (x != x) = false := fun x => by simp
    rw [b' p, b (Ne.symm npq), b (Ne.symm npr), b (Ne.symm nps)] at e1
    rw [b npq, b' q, b (Ne.symm nqr), b (Ne.symm nqs), adj_symm q p] at e2
    rw [b npr, b nqr, b' r, b (Ne.symm nrs), adj_symm r p, adj_symm r q] at e3
    rw [b nps, b nqs, b nrs, b' s, adj_symm s p, adj_symm s q, adj_symm s r] at e4
    simp only [Bool.false_and, Bool.true_and, one, Bool.false_eq_true, if_false] at e1 e2 e3 e4
    have fin := ring_bools (adj b0 b1 b2 b3 p q) (adj b0 b1 b2 b3 p r) (adj b0 b1 b2 b3 p s) (adj b0 b1 b2 b3 q r) (adj b0 b1 b2 b3 q s) (adj b0 b1 b2 b3 r s) (by unfold one; omega) (by unfold one; omega) (by unfold one; omega) (by unfold one; omega)
    have z : ∀ {x y : Nat}, adj b0 b1 b2 b3 x y = false → (col b0 b1 b2 b3 x &&& col b0 b1 b2 b3 y) = 0 := fun h => by simpa [adj] using h
    rcases fin with ⟨f1, f2, f3, f4, f5, f6⟩ | ⟨f1, f2, f3, f4, f5, f6⟩ | ⟨f1, f2, f3, f4, f5, f6⟩
    · exact ring4 t ht _ pp _ pq' (z f1) _ pr' (adj_ne f3) (adj_ne f5) _ ps' (adj_ne f4) (adj_ne f6) (z f2)
    · exact ring4 t ht _ pp _ pr' (z f1) _ pq' (adj_ne f3) (by rw [Nat.and_comm]; exact adj_ne f5) _ ps' (adj_ne f4) (adj_ne f6) (z f2)
    · exact ring4 t ht _ pp _ ps' (z f1) _ pq' (adj_ne f3) (by rw [Nat.and_comm]; exact adj_ne f5) _ pr' (adj_ne f4) (by rw [Nat.and_comm]; exact adj_ne f6) (z f2)

theorem noRing_of_hang (ht : t ∈ trees) (hh : hangAll b0 b1 b2 b3 t = true) : noRingN [b0, b1, b2, b3] = true := by
  rw [noRing_eq]
  refine List.all_eq_true.mpr fun s hs => ?_
  have hl := hereL_lt s
  have hn := hereL_nodup s
  rw [Bool.not_eq_true']
  unfold badL
  rw [Bool.or_eq_false_iff]
  refine ⟨decide_eq_false (no_ring4 ht hh hl hn), ?_⟩
  rw [Bool.and_eq_false_iff]
  by_cases h1 : (decide ((2 : Int) < (hereL s).length) && (decide ((hereL s).map (degL b0 b1 b2 b3 (hereL s)) = List.replicate (hereL s).length (((hereL s).length : Int) - 1)) && true)) = true
  · right
    simp only [Bool.and_eq_true, decide_eq_true_eq, and_true] at h1
    obtain ⟨h2, h3⟩ := h1
    rw [clique_cover ht hh hl hn (by omega) fun p hp q hq hne => full_deg hn hp ?_ q hq hne]
    · rfl
    · have : degL b0 b1 b2 b3 (hereL s) p ∈ List.replicate (hereL s).length (((hereL s).length : Int) - 1) := h3 ▸ List.mem_map_of_mem hp
      exact (List.mem_replicate.mp this).2
  · left
    simpa using h1
end
end Mine
end

/-! Qk -/
section
set_option maxRecDepth 100000
set_option maxHeartbeats 4000000
namespace Mine
open PySem

/-! No ring: some tree hangs. -/
noncomputable def famT : List (List Nat) := [[6, 10, 12, 14], [5, 10, 12, 13, 14], [3, 10, 12, 11, 14], [9, 6, 12, 13, 14], [3, 6, 12, 7, 14], [5, 9, 12, 13], [3, 9, 12, 11, 13], [3, 5, 12, 7, 13], [9, 6, 10, 11, 14], [5, 6, 10, 7, 14], [5, 9, 10, 11, 13], [3, 9, 10, 11], [3, 5, 10, 7, 11], [5, 9, 6, 7, 13], [3, 9, 6, 7, 11], [3, 5, 6, 7]]
theorem famT_ok : ((trees.zip famT).all fun r => (List.range 16).all fun S => r.2.contains S || hangB r.1 S) = true := by decide +kernel
noncomputable def obs : List (List Nat) := [[3, 5, 6], [3, 5, 14], [3, 6, 13], [3, 9, 10], [3, 9, 14], [3, 10, 13], [3, 13, 14], [5, 6, 11], [5, 9, 12], [5, 9, 14], [5, 11, 12], [5, 11, 14], [6, 10, 12], [6, 10, 13], [6, 11, 12], [6, 11, 13], [7, 9, 10], [7, 9, 12], [7, 9, 14], [7, 10, 12], [7, 10, 13], [7, 11, 12], [3, 5, 12, 10], [3, 6, 12, 9], [5, 6, 10, 9], [7, 11, 13, 14]]
noncomputable def famB (f : Nat → Bool) : Bool := (famT.any fun l => l.all fun S => !f S) || obs.any fun O => O.all f
theorem famAll : ∀ f : Nat → Bool, famB f = true := by
  intro f
  unfold famB famT obs
  simp only [List.any_cons, List.any_nil, List.all_cons, List.all_nil, Bool.and_true, Bool.or_false]
  generalize f 3 = a
  generalize f 5 = b
  generalize f 9 = d
  generalize f 6 = e
  generalize f 10 = g
  generalize f 12 = h
  generalize f 7 = i
  generalize f 11 = j
  generalize f 13 = k
  generalize f 14 = m
  revert a b d e g h i j k m
  decide +kernel

noncomputable def okO : List Nat → Bool
  | [A, B, C] => (A &&& B) != 0 && (A &&& C) != 0 && (B &&& C) != 0 && (A &&& B &&& C) == 0
  | [A, B, C, D] => ((A &&& B) != 0 && (B &&& C) != 0 && (C &&& D) != 0 && (A &&& D) != 0) && ((A != C) && (B != D)) &&
      (((A &&& C) == 0 && (B &&& D) == 0) || ((A &&& C) != 0 && (B &&& D) != 0 && (A &&& B &&& C &&& D) == 0 && A != B && A != D && B != C && C != D))
  | _ => false
theorem obs_ok : obs.all okO = true := by decide +kernel

section
variable {b0 b1 b2 b3 : List Int}
theorem here_of3 : ((List.range 5).all fun p => (List.range 5).all fun q => (List.range 5).all fun r => p == q || p == r || q == r || (List.range 32).any fun s => (hereL s).isPerm [p, q, r]) = true := by decide +kernel
theorem here_of4 : ((List.range 5).all fun p => (List.range 5).all fun q => (List.range 5).all fun r => (List.range 5).all fun x => p == q || p == r || p == x || q == r || q == x || r == x || (List.range 32).any fun s => (hereL s).isPerm [p, q, r, x]) = true := by decide +kernel
theorem degL_perm {l m : List Nat} (h : l.Perm m) (p : Nat) : degL b0 b1 b2 b3 l p = degL b0 b1 b2 b3 m p := by
  unfold degL; rw [(h.filter _).length_eq]
theorem coverB_perm {l m : List Nat} (h : l.Perm m) : coverB b0 b1 b2 b3 l = coverB b0 b1 b2 b3 m := by
  unfold coverB; rw [h.all_eq, h.all_eq, h.all_eq, h.all_eq]
theorem ring_of {m : List Nat} {s : Nat} (hs : s ∈ List.range 32) (hp : (hereL s).Perm m)
    (h : (m.length = 4 ∧ ∀ x ∈ m, degL b0 b1 b2 b3 m x = 2) ∨ (2 < m.length ∧ (∀ x ∈ m, degL b0 b1 b2 b3 m x = (m.length : Int) - 1) ∧ coverB b0 b1 b2 b3 m = false)) : noRingN [b0, b1, b2, b3] = false := by
  rw [noRing_eq]
  have hb : badL b0 b1 b2 b3 (hereL s) = true := by
    have el := hp.length_eq
    unfold badL
    rcases h with ⟨h1, h2⟩ | ⟨h1, h2, h3⟩
    · have e : (hereL s).map (degL b0 b1 b2 b3 (hereL s)) = [2, 2, 2, 2] := by
        have : (hereL s).map (degL b0 b1 b2 b3 (hereL s)) = List.replicate (hereL s).length 2 := by
          rw [List.eq_replicate_iff]
          refine ⟨List.length_map _, fun y hy => ?_⟩
          obtain ⟨x, hx, rfl⟩ := List.mem_map.mp hy
          rw [degL_perm hp]; exact h2 x (hp.mem_iff.mp hx)
        rw [this, el, h1]; rfl
      rw [decide_eq_true e]; rfl
    · have e : (hereL s).map (degL b0 b1 b2 b3 (hereL s)) = List.replicate (hereL s).length (((hereL s).length : Int) - 1) := by
        rw [List.eq_replicate_iff]
        refine ⟨List.length_map _, fun y hy => ?_⟩
        obtain ⟨x, hx, rfl⟩ := List.mem_map.mp hy
        rw [degL_perm hp, el]; exact h2 x (hp.mem_iff.mp hx)
      rw [decide_eq_true e, coverB_perm hp, h3, decide_eq_true (show (2 : Int) < ((hereL s).length : Int) by rw [el]; omega)]
      simp
  cases hall : (List.range 32).all fun s => !badL b0 b1 b2 b3 (hereL s) with
  | false => rfl
  | true => have := List.all_eq_true.mp hall s hs; rw [hb] at this; cases this

theorem nebt {x y : Nat} (h : x ≠ y) : (x != y) = true := bne_iff_ne.mpr h
theorem nebf (x : Nat) : (x != x) = false := by simp
theorem col_le15 (p : Nat) : col b0 b1 b2 b3 p &&& 15 = col b0 b1 b2 b3 p := by
  have : ∀ S, S < 16 → (S &&& 15) = S := by decide
  exact this _ (mask_lt _ _ _ _)

theorem ring3 {p q r : Nat} (lp : p < 5) (lq : q < 5) (lr : r < 5) (h : okO [col b0 b1 b2 b3 p, col b0 b1 b2 b3 q, col b0 b1 b2 b3 r] = true) : noRingN [b0, b1, b2, b3] = false := by
  simp only [okO, Bool.and_eq_true] at h
  obtain ⟨⟨⟨h1, h2⟩, h3⟩, h4⟩ := h
  have z : (col b0 b1 b2 b3 p &&& col b0 b1 b2 b3 q &&& col b0 b1 b2 b3 r) = 0 := by simpa using h4
  have n1 : p ≠ q := by
    rintro rfl
    rw [Nat.and_self] at z
    rw [z] at h2; cases h2
  have n2 : p ≠ r := by
    rintro rfl
    rw [Nat.and_comm (col b0 b1 b2 b3 p) (col b0 b1 b2 b3 q), Nat.and_assoc, Nat.and_self, Nat.and_comm] at z
    rw [z] at h1; cases h1
  have n3 : q ≠ r := by
    rintro rfl
    rw [Nat.and_assoc, Nat.and_self] at z
    rw [z] at h1; cases h1
  have k := List.all_eq_true.mp (List.all_eq_true.mp (List.all_eq_true.mp here_of3 p (List.mem_range.mpr lp)) q (List.mem_range.mpr lq)) r (List.mem_range.mpr lr)
  rw [beq_eq_false_iff_ne.mpr n1, beq_eq_false_iff_ne.mpr n2, beq_eq_false_iff_ne.mpr n3] at k
  simp only [Bool.false_or] at k
  obtain ⟨s, hs, hp⟩ := List.any_eq_true.mp k
  refine ring_of hs (List.isPerm_iff.mp hp) (Or.inr ⟨(by simp only [List.length_cons, List.length_nil]; omega), ?_, ?_⟩)
  · have a1 : adj b0 b1 b2 b3 p q = true := h1
    have a2 : adj b0 b1 b2 b3 p r = true := h2
    have a3 : adj b0 b1 b2 b3 q r = true := h3
    intro x hx
    simp only [List.mem_cons, List.not_mem_nil, or_false] at hx
    rw [deg3]
    rcases hx with rfl | rfl | rfl
    · rw [nebf, nebt (Ne.symm n1), nebt (Ne.symm n2), a1, a2]; rfl
    · rw [nebt n1, nebf, nebt (Ne.symm n3), adj_symm, a1, a3]; rfl
    · rw [nebt n2, nebt n3, nebf, adj_symm, a2, adj_symm, a3]; rfl
  · rw [cover_and]
    show ((col b0 b1 b2 b3 p &&& (col b0 b1 b2 b3 q &&& (col b0 b1 b2 b3 r &&& 15))) != 0) = false
    rw [col_le15, ← Nat.and_assoc, z]; rfl

theorem ring4' {p q r x : Nat} (lp : p < 5) (lq : q < 5) (lr : r < 5) (lx : x < 5) (h : okO [col b0 b1 b2 b3 p, col b0 b1 b2 b3 q, col b0 b1 b2 b3 r, col b0 b1 b2 b3 x] = true) : noRingN [b0, b1, b2, b3] = false := by
  simp only [okO, Bool.and_eq_true, Bool.or_eq_true] at h
  obtain ⟨⟨⟨⟨⟨h1, h2⟩, h3⟩, h4⟩, h5, h6⟩, h7⟩ := h
  have a1 : adj b0 b1 b2 b3 p q = true := h1
  have a2 : adj b0 b1 b2 b3 q r = true := h2
  have a3 : adj b0 b1 b2 b3 r x = true := h3
  have a4 : adj b0 b1 b2 b3 p x = true := h4
  have npr : p ≠ r := by rintro rfl; simp at h5
  have nqx : q ≠ x := by rintro rfl; simp at h6
  have n : p ≠ q ∧ p ≠ x ∧ q ≠ r ∧ r ≠ x := by
    rcases h7 with ⟨z1, z2⟩ | ⟨⟨⟨⟨⟨⟨_, _⟩, _⟩, k1⟩, k2⟩, k3⟩, k4⟩
    · have y1 : adj b0 b1 b2 b3 p r = false := by unfold adj; rw [eq_of_beq z1]; rfl
      have y2 : adj b0 b1 b2 b3 q x = false := by unfold adj; rw [eq_of_beq z2]; rfl
      refine ⟨?_, ?_, ?_, ?_⟩
      · rintro rfl; rw [a2] at y1; cases y1
      · rintro rfl; rw [adj_symm, a3] at y1; cases y1
      · rintro rfl; rw [a1] at y1; cases y1
      · rintro rfl; rw [a4] at y1; cases y1
    · refine ⟨?_, ?_, ?_, ?_⟩
      · rintro rfl; simp at k1
      · rintro rfl; simp at k2
      · rintro rfl; simp at k3
      · rintro rfl; simp at k4
  obtain ⟨npq, npx, nqr, nrx⟩ := n
  have k := List.all_eq_true.mp (List.all_eq_true.mp (List.all_eq_true.mp (List.all_eq_true.mp here_of4 p (List.mem_range.mpr lp)) q (List.mem_range.mpr lq)) r (List.mem_range.mpr lr)) x (List.mem_range.mpr lx)
  rw [beq_eq_false_iff_ne.mpr npq, beq_eq_false_iff_ne.mpr npr, beq_eq_false_iff_ne.mpr npx, beq_eq_false_iff_ne.mpr nqr, beq_eq_false_iff_ne.mpr nqx, beq_eq_false_iff_ne.mpr nrx] at k
  simp only [Bool.false_or] at k
  obtain ⟨s, hs, hp⟩ := List.any_eq_true.mp k
  have degs : ∀ u : Bool, ∀ w : Bool, adj b0 b1 b2 b3 p r = u → adj b0 b1 b2 b3 q x = w → u = w → ∀ y ∈ [p, q, r, x], degL b0 b1 b2 b3 [p, q, r, x] y = 2 + one u := by
    intro u w hu hw huw y hy
    subst huw
    simp only [List.mem_cons, List.not_mem_nil, or_false] at hy
    rw [deg4]
    rcases hy with rfl | rfl | rfl | rfl
    · rw [nebf, nebt (Ne.symm npq), nebt (Ne.symm npr), nebt (Ne.symm npx), a1, a4, hu]; cases u <;> rfl
    · rw [nebt npq, nebf, nebt (Ne.symm nqr), nebt (Ne.symm nqx), adj_symm _ p, a1, a2, hw]; cases u <;> rfl
    · rw [nebt npr, nebt nqr, nebf, nebt (Ne.symm nrx), adj_symm _ p, adj_symm _ q, hu, a2, a3]; cases u <;> rfl
    · rw [nebt npx, nebt nqx, nebt nrx, nebf, adj_symm _ p, adj_symm _ q, adj_symm _ r, a4, hw, a3]; cases u <;> rfl
  rcases h7 with ⟨z1, z2⟩ | ⟨⟨⟨⟨⟨⟨y1, y2⟩, y3⟩, _⟩, _⟩, _⟩, _⟩
  · refine ring_of hs (List.isPerm_iff.mp hp) (Or.inl ⟨rfl, fun y hy => ?_⟩)
    exact degs false false (by unfold adj; rw [eq_of_beq z1]; rfl) (by unfold adj; rw [eq_of_beq z2]; rfl) rfl y hy
  · refine ring_of hs (List.isPerm_iff.mp hp) (Or.inr ⟨(by simp only [List.length_cons, List.length_nil]; omega), fun y hy => ?_, ?_⟩)
    · exact degs true true y1 y2 rfl y hy
    · rw [cover_and]
      show ((col b0 b1 b2 b3 p &&& (col b0 b1 b2 b3 q &&& (col b0 b1 b2 b3 r &&& (col b0 b1 b2 b3 x &&& 15)))) != 0) = false
      rw [col_le15, ← Nat.and_assoc, ← Nat.and_assoc, eq_of_beq y3]; rfl

noncomputable def present (b0 b1 b2 b3 : List Int) (S : Nat) : Bool := (List.range 5).any fun p => col b0 b1 b2 b3 p == S
theorem present_at {S : Nat} (h : present b0 b1 b2 b3 S = true) : ∃ p, p < 5 ∧ col b0 b1 b2 b3 p = S := by
  obtain ⟨p, h1, h2⟩ := List.any_eq_true.mp h
  exact ⟨p, List.mem_range.mp h1, eq_of_beq h2⟩
theorem hang_of_noRing (h : noRingN [b0, b1, b2, b3] = true) : ∃ t ∈ trees, hangAll b0 b1 b2 b3 t = true := by
  have k := famAll (present b0 b1 b2 b3)
  unfold famB at k
  rw [Bool.or_eq_true] at k
  rcases k with k | k
  · obtain ⟨l, hl, hk⟩ := List.any_eq_true.mp k
    obtain ⟨t, ht⟩ : ∃ t, (t, l) ∈ trees.zip famT := by
      obtain ⟨i, hi, rfl⟩ := List.getElem_of_mem hl
      have hz : i < (trees.zip famT).length := hi
      have k2 := List.getElem_mem hz
      rw [List.getElem_zip] at k2
      exact ⟨_, k2⟩
    refine ⟨t, (List.of_mem_zip ht).1, ?_⟩
    have q := List.all_eq_true.mp famT_ok (t, l) ht
    have hg : ∀ p, p < 5 → hangB t (col b0 b1 b2 b3 p) = true := by
      intro p hp
      have q1 := List.all_eq_true.mp q _ (col_lt (b0 := b0) (b1 := b1) (b2 := b2) (b3 := b3) p)
      rw [Bool.or_eq_true] at q1
      rcases q1 with q1 | q1
      · have q2 := List.all_eq_true.mp hk _ (List.contains_iff_mem.mp q1)
        have : present b0 b1 b2 b3 (col b0 b1 b2 b3 p) = true := List.any_eq_true.mpr ⟨p, List.mem_range.mpr hp, by simp⟩
        rw [this] at q2; cases q2
      · exact q1
    unfold hangAll
    rw [hg 0 (by decide), hg 1 (by decide), hg 2 (by decide), hg 3 (by decide), hg 4 (by decide)]; rfl
  · exfalso
    obtain ⟨O, hO, hk⟩ := List.any_eq_true.mp k
    have ok := List.all_eq_true.mp obs_ok O hO
    have nope : noRingN [b0, b1, b2, b3] = false := by
      match O, ok, hk with
      | [A, B, C], ok, hk =>
        simp only [List.all_cons, List.all_nil, Bool.and_true, Bool.and_eq_true] at hk
        obtain ⟨k1, k2, k3⟩ := hk
        obtain ⟨p, lp, rfl⟩ := present_at k1
        obtain ⟨q, lq, rfl⟩ := present_at k2
        obtain ⟨r, lr, rfl⟩ := present_at k3
        exact ring3 lp lq lr ok
      | [A, B, C, D], ok, hk =>
        simp only [List.all_cons, List.all_nil, Bool.and_true, Bool.and_eq_true] at hk
        obtain ⟨k1, k2, k3, k4⟩ := hk
        obtain ⟨p, lp, rfl⟩ := present_at k1
        obtain ⟨q, lq, rfl⟩ := present_at k2
        obtain ⟨r, lr, rfl⟩ := present_at k3
        obtain ⟨x, lx, rfl⟩ := present_at k4
        exact ring4' lp lq lr lx ok
    rw [nope] at h; cases h
end
end Mine
end

/-! Qm -/
section
set_option maxRecDepth 100000
set_option maxHeartbeats 4000000
namespace Mine
open PySem

/-! The paintings, counted letter by letter over the columns. -/
noncomputable def cnt : List Nat → Nat → Nat → Nat → Nat
  | [], _, _, _ => 1
  | S :: L, u, v, w => (bif (S &&& u) == 0 then cnt L (u ||| S) v w else 0) + ((bif (S &&& v) == 0 then cnt L u (v ||| S) w else 0) + (bif (S &&& w) == 0 then cnt L u v (w ||| S) else 0))
noncomputable def okU : List Nat → Nat → Nat → Nat → List Nat → Bool
  | [], _, _, _, _ => true
  | _ :: _, _, _, _, [] => true
  | S :: L, u, v, w, 0 :: ks => (S &&& u) == 0 && okU L (u ||| S) v w ks
  | S :: L, u, v, w, 1 :: ks => (S &&& v) == 0 && okU L u (v ||| S) w ks
  | S :: L, u, v, w, _ :: ks => (S &&& w) == 0 && okU L u v (w ||| S) ks
noncomputable def okB : List Bool → Bool → Bool → Bool → List Nat → Bool
  | [], _, _, _, _ => true
  | _ :: _, _, _, _, [] => true
  | s :: L, u, v, w, 0 :: ks => !(s && u) && okB L (u || s) v w ks
  | s :: L, u, v, w, 1 :: ks => !(s && v) && okB L u (v || s) w ks
  | s :: L, u, v, w, _ :: ks => !(s && w) && okB L u v (w || s) ks

noncomputable abbrev Qd4 := Bool × Bool × Bool × Bool
noncomputable def mq (s : Qd4) : Nat := mask s.1 s.2.1 s.2.2.1 s.2.2.2
noncomputable def oq (s t : Qd4) : Qd4 := (s.1 || t.1, s.2.1 || t.2.1, s.2.2.1 || t.2.2.1, s.2.2.2 || t.2.2.2)
theorem mq_or (s t : Qd4) : (mq s ||| mq t) = mq (oq s t) := by
  obtain ⟨a, b, d, e⟩ := s
  obtain ⟨a', b', d', e'⟩ := t
  revert a b d e a' b' d' e'; decide +kernel
theorem mq_and (s t : Qd4) : ((mq s &&& mq t) == 0) = (!(s.1 && t.1) && !(s.2.1 && t.2.1) && !(s.2.2.1 && t.2.2.1) && !(s.2.2.2 && t.2.2.2)) := by
  obtain ⟨a, b, d, e⟩ := s
  obtain ⟨a', b', d', e'⟩ := t
  revert a b d e a' b' d' e'; decide +kernel
theorem mix8 (a b d e a' b' d' e' : Bool) : ((a && b && d && e) && (a' && b' && d' && e')) = ((a && a') && (b && b') && (d && d') && (e && e')) := by
  revert a b d e a' b' d' e'; decide +kernel
theorem okU_split : ∀ (L : List Qd4) (ks : List Nat) (u v w : Qd4), okU (L.map mq) (mq u) (mq v) (mq w) ks =
    (okB (L.map fun s => s.1) u.1 v.1 w.1 ks && okB (L.map fun s => s.2.1) u.2.1 v.2.1 w.2.1 ks && okB (L.map fun s => s.2.2.1) u.2.2.1 v.2.2.1 w.2.2.1 ks && okB (L.map fun s => s.2.2.2) u.2.2.2 v.2.2.2 w.2.2.2 ks)
  | [], _, _, _, _ => rfl
  | _ :: _, [], _, _, _ => rfl
  | s :: L, 0 :: ks, u, v, w => by
    show ((mq s &&& mq u) == 0 && okU (L.map mq) (mq u ||| mq s) (mq v) (mq w) ks) = _
    rw [mq_or, mq_and, okU_split L ks, mix8]; rfl
  | s :: L, 1 :: ks, u, v, w => by
    show ((mq s &&& mq v) == 0 && okU (L.map mq) (mq u) (mq v ||| mq s) (mq w) ks) = _
    rw [mq_or, mq_and, okU_split L ks, mix8]; rfl
  | s :: L, (k + 2) :: ks, u, v, w => by
    show ((mq s &&& mq w) == 0 && okU (L.map mq) (mq u) (mq v) (mq w ||| mq s) ks) = _
    rw [mq_or, mq_and, okU_split L ks, mix8]; rfl

noncomputable def rowsB : Nat → List (List Nat)
  | 0 => [[]]
  | n + 1 => (rowsB n).map (0 :: ·) ++ ((rowsB n).map (1 :: ·) ++ (rowsB n).map (2 :: ·))
theorem filt_and {α : Type} (b : Bool) (f : α → Bool) (l : List α) : (l.filter fun x => b && f x).length = (bif b then (l.filter f).length else 0) := by
  cases b
  · simp
  · simp
theorem cnt_rows : ∀ (L : List Nat) (u v w : Nat), ((rowsB L.length).filter (okU L u v w)).length = cnt L u v w
  | [], _, _, _ => rfl
  | S :: L, u, v, w => by
    show (((rowsB L.length).map (0 :: ·) ++ ((rowsB L.length).map (1 :: ·) ++ (rowsB L.length).map (2 :: ·))).filter (okU (S :: L) u v w)).length = _
    rw [List.filter_append, List.filter_append, List.length_append, List.length_append, List.filter_map, List.filter_map, List.filter_map, List.length_map, List.length_map, List.length_map]
    show ((rowsB L.length).filter (fun ks => (S &&& u) == 0 && okU L (u ||| S) v w ks)).length + (((rowsB L.length).filter (fun ks => (S &&& v) == 0 && okU L u (v ||| S) w ks)).length + ((rowsB L.length).filter (fun ks => (S &&& w) == 0 && okU L u v (w ||| S) ks)).length) = _
    rw [filt_and, filt_and, filt_and, cnt_rows L, cnt_rows L, cnt_rows L]
    rfl

/-! the program's rows -/
noncomputable def cut : Nat → List Int → List Int
  | 0, r => r.dropLast.dropLast.dropLast.dropLast
  | 1, r => r.dropLast.dropLast.dropLast
  | 2, r => r.dropLast.dropLast
  | 3, r => r.dropLast
  | _, r => r
theorem filt_grown (P : List Int → Bool) : ∀ rows : List (List Int), grown (rows.filter P) = (grown rows).filter fun r => P r.dropLast
  | [] => rfl
  | a :: rows => by
    have e : grown (a :: rows) = [a ++ [0], a ++ [1], a ++ [2]] ++ grown rows := rfl
    have f : ([a ++ [0], a ++ [1], a ++ [2]].filter fun r => P r.dropLast) = bif P a then [a ++ [0], a ++ [1], a ++ [2]] else [] := by
      simp only [List.filter_cons, List.filter_nil, List.dropLast_concat]
      cases P a <;> rfl
    rw [e, List.filter_append, f, ← filt_grown P rows, List.filter_cons]
    cases P a <;> rfl
theorem grown5 : grown (grown (grown (grown (grown [[]])))) = (rowsB 5).map ofNats := by decide +kernel
theorem paint_rows (bags : List (List Int)) (rb : List Bool) :
    paintN bags rb = (((rowsB 5).map ofNats).filter fun r => (List.range 5).all fun p => unlikeN (cut p r) (endedN bags p) rb).length := by
  show (stepN bags rb (stepN bags rb (stepN bags rb (stepN bags rb (stepN bags rb [[]] 0) 1) 2) 3) 4).length = _
  unfold stepN
  simp only [filt_grown, List.filter_filter]
  rw [grown5]
  congr 2
  funext r
  show _ = (unlikeN r.dropLast.dropLast.dropLast.dropLast (endedN bags 0) rb && (unlikeN r.dropLast.dropLast.dropLast (endedN bags 1) rb && (unlikeN r.dropLast.dropLast (endedN bags 2) rb && (unlikeN r.dropLast (endedN bags 3) rb && (unlikeN r (endedN bags 4) rb && true)))))
  rw [Bool.and_true]
  ac_rfl

noncomputable def rbL : List Bool := [false, true, false, false, true, true, false, false, false, false, false, false, false, false, false, false, true, true, false, false, true, true, false, false, false, false, false, false, false, false, false, false, false, false, false, false, false, false, false, false, false, false, false, false, false, false, false, false, false, false, false, false, false, false, false, false, false, false, false, false, false, false, false, false]
theorem rainbow_lit : rainbowN = rbL := by decide +kernel
noncomputable def lightB (b : List Int) (r : List Int) : Bool := rbL.getD (codeOf (cut (b.getLastD 0).toNat r) b).toNat false
theorem light_okB : (allBags.all fun b => (rowsB 5).all fun ks => lightB b (ofNats ks) == okB ((List.range 5).map (has b)) false false false ks) = true := by decide +kernel
theorem last_mem : ∀ b ∈ allBags, (b.getLastD 0).toNat ∈ List.range 5 ∧ 0 ≤ b.getLastD 0 := by decide +kernel

section
variable {b0 b1 b2 b3 : List Int}
theorem lights (bags : List (List Int)) (hb : ∀ b ∈ bags, b ∈ allBags) (r : List Int) : ((List.range 5).all fun p => unlikeN (cut p r) (endedN bags p) rbL) = bags.all fun b => lightB b r := by
  rw [Bool.eq_iff_iff, List.all_eq_true, List.all_eq_true]
  unfold unlikeN endedN
  simp only [List.all_eq_true, List.mem_filter, beq_iff_eq]
  constructor
  · intro h b hm
    obtain ⟨q1, q2⟩ := last_mem b (hb b hm)
    exact h _ q1 b ⟨hm, by omega⟩
  · rintro h p hp b ⟨hm, e⟩
    have := h b hm
    unfold lightB at this
    rw [e] at this
    simpa using this
theorem paint_eq (h0 : b0 ∈ allBags) (h1 : b1 ∈ allBags) (h2 : b2 ∈ allBags) (h3 : b3 ∈ allBags) :
    paintN [b0, b1, b2, b3] rainbowN = cnt [col b0 b1 b2 b3 0, col b0 b1 b2 b3 1, col b0 b1 b2 b3 2, col b0 b1 b2 b3 3, col b0 b1 b2 b3 4] 0 0 0 := by
  rw [paint_rows, rainbow_lit, List.filter_map, List.length_map, ← cnt_rows]
  show ((rowsB 5).filter _).length = ((rowsB 5).filter _).length
  congr 1
  refine List.filter_congr fun ks hk => ?_
  show ((List.range 5).all fun p => unlikeN (cut p (ofNats ks)) (endedN [b0, b1, b2, b3] p) rbL) = _
  rw [lights _ (by intro b hb; simp only [List.mem_cons, List.not_mem_nil, or_false] at hb; rcases hb with rfl | rfl | rfl | rfl <;> assumption)]
  have e : ∀ b ∈ allBags, lightB b (ofNats ks) = okB ((List.range 5).map (has b)) false false false ks := fun b hb => eq_of_beq (List.all_eq_true.mp (List.all_eq_true.mp light_okB b hb) ks hk)
  simp only [List.all_cons, List.all_nil, Bool.and_true]
  rw [e b0 h0, e b1 h1, e b2 h2, e b3 h3]
  have k := okU_split ((List.range 5).map fun p => (has b0 p, has b1 p, has b2 p, has b3 p)) ks (false, false, false, false) (false, false, false, false) (false, false, false, false)
  rw [List.map_map, List.map_map, List.map_map, List.map_map, List.map_map] at k
  refine Eq.trans ?_ k.symm
  simp only [Bool.and_assoc]
  rfl
end
end Mine
end

/-! Qn -/
section
set_option maxRecDepth 100000
set_option maxHeartbeats 4000000
namespace Mine
open PySem

theorem or_ac (u S T : Nat) : (u ||| S ||| T) = (u ||| T ||| S) := by rw [Nat.or_assoc, Nat.or_comm S T, ← Nat.or_assoc]
theorem and_or0 (S u T : Nat) : ((S &&& (u ||| T)) == 0) = ((S &&& u) == 0 && (S &&& T) == 0) := by
  rw [Nat.and_or_distrib_left, Bool.eq_iff_iff]
  simp only [beq_iff_eq, Bool.and_eq_true, Nat.or_eq_zero_iff]
theorem bif_add (a : Bool) (x y : Nat) : (bif a then x + y else 0) = (bif a then x else 0) + (bif a then y else 0) := by cases a <;> rfl
theorem bif_bif (a b : Bool) (x : Nat) : (bif a then (bif b then x else 0) else 0) = (bif a && b then x else 0) := by cases a <;> rfl
theorem nine (a b d e f g h i j : Nat) : (a + (b + d)) + ((e + (f + g)) + (h + (i + j))) = (a + (e + h)) + ((b + (f + i)) + (d + (g + j))) := by omega
theorem cnt_swap (S T : Nat) (L : List Nat) (u v w : Nat) : cnt (S :: T :: L) u v w = cnt (T :: S :: L) u v w := by
  simp only [cnt, and_or0, bif_add, bif_bif]
  rw [Nat.and_comm T S, or_ac u T S, or_ac v T S, or_ac w T S]
  refine Eq.trans ?_ (nine _ _ _ _ _ _ _ _ _)
  simp only [Bool.and_comm, Bool.and_left_comm]
theorem cnt_perm {L M : List Nat} (h : L.Perm M) : ∀ u v w : Nat, cnt L u v w = cnt M u v w := by
  induction h with
  | nil => intro _ _ _; rfl
  | cons x _ ih => intro u v w; simp only [cnt, ih]
  | swap x y l => intro u v w; exact cnt_swap y x l u v w
  | trans _ _ ih1 ih2 => intro u v w; rw [ih1, ih2]

/-- all multisets over a list, tested as they are built -/
noncomputable def allR (P : List Nat → Bool) (H : List Nat) : Nat → List Nat → Bool :=
  List.rec (motive := fun _ => Nat → List Nat → Bool) (fun n A => bif Nat.beq n 0 then P A else true)
    (fun h _ ih n A => Nat.rec (motive := fun _ => Nat → List Nat → Bool) (fun n A => ih n A) (fun _ jh n A => bif (ih n A) then (bif Nat.beq n 0 then true else jh (Nat.sub n 1) (h :: A)) else false) n n A) H
noncomputable def inR (P : List Nat → Bool) (h : Nat) (H : List Nat) (f : Nat) : Nat → List Nat → Bool :=
  Nat.rec (motive := fun _ => Nat → List Nat → Bool) (fun n A => allR P H n A) (fun _ jh n A => bif (allR P H n A) then (bif Nat.beq n 0 then true else jh (Nat.sub n 1) (h :: A)) else false) f
theorem inR_sound {P : List Nat → Bool} {h : Nat} {H : List Nat} (ih : ∀ n A, allR P H n A = true → ∀ L : List Nat, L.length = n → (∀ x ∈ L, x ∈ H) → ∃ M, M.Perm (L ++ A) ∧ P M = true) :
    ∀ f n A, n ≤ f → inR P h H f n A = true → ∀ L : List Nat, L.length = n → (∀ x ∈ L, x ∈ h :: H) → ∃ M, M.Perm (L ++ A) ∧ P M = true
  | 0, n, A, hf, hr, L, hl, hm => by
    have : L = [] := List.eq_nil_of_length_eq_zero (by omega)
    subst this
    exact ih n A hr [] hl (fun x hx => absurd hx List.not_mem_nil)
  | f + 1, n, A, hf, hr, L, hl, hm => by
    have hr' : (bif (allR P H n A) then (bif Nat.beq n 0 then true else inR P h H f (Nat.sub n 1) (h :: A)) else false) = true := hr
    cases ha : allR P H n A with
    | false => rw [ha] at hr'; cases hr'
    | true =>
      by_cases hh : h ∈ L
      · have hp := List.perm_cons_erase hh
        have hn : n ≠ 0 := by have := List.length_pos_of_mem hh; omega
        have hb : Nat.beq n 0 = false := by
          cases n with
          | zero => exact absurd rfl hn
          | succ n => rfl
        rw [ha, hb] at hr'
        obtain ⟨M, q1, q2⟩ := inR_sound ih f (n - 1) (h :: A) (by omega) hr' (L.erase h) (by rw [List.length_erase_of_mem hh]; omega) (fun x hx => hm x (List.mem_of_mem_erase hx))
        refine ⟨M, q1.trans ?_, q2⟩
        refine (List.perm_middle).trans ?_
        exact (hp.append_right A).symm
      · exact ih n A ha L hl (fun x hx => by
          rcases List.mem_cons.mp (hm x hx) with rfl | q
          · exact absurd hx hh
          · exact q)
theorem allR_sound {P : List Nat → Bool} : ∀ (H : List Nat) (n : Nat) (A : List Nat), allR P H n A = true → ∀ L : List Nat, L.length = n → (∀ x ∈ L, x ∈ H) → ∃ M, M.Perm (L ++ A) ∧ P M = true
  | [], n, A, hr, L, hl, hm => by
    have : L = [] := List.eq_nil_iff_forall_not_mem.mpr fun x hx => absurd (hm x hx) List.not_mem_nil
    subst this
    cases hl
    exact ⟨A, .refl _, hr⟩
  | h :: H, n, A, hr, L, hl, hm => inR_sound (allR_sound H) n n A (Nat.le_refl n) hr L hl hm

noncomputable def cntR (L : List Nat) : Nat → Nat → Nat → Nat :=
  List.rec (motive := fun _ => Nat → Nat → Nat → Nat) (fun _ _ _ => 1) (fun S _ ih u v w => Nat.add (bif Nat.beq (Nat.land S u) 0 then ih (Nat.lor u S) v w else 0) (Nat.add (bif Nat.beq (Nat.land S v) 0 then ih u (Nat.lor v S) w else 0) (bif Nat.beq (Nat.land S w) 0 then ih u v (Nat.lor w S) else 0))) L
theorem beq0 (n : Nat) : Nat.beq n 0 = (n == 0) := by cases n <;> rfl
theorem cntR_eq : ∀ (L : List Nat) (u v w : Nat), cntR L u v w = cnt L u v w
  | [], _, _, _ => rfl
  | S :: L, u, v, w => by
    show Nat.add (bif Nat.beq (Nat.land S u) 0 then cntR L (Nat.lor u S) v w else 0) (Nat.add (bif Nat.beq (Nat.land S v) 0 then cntR L u (Nat.lor v S) w else 0) (bif Nat.beq (Nat.land S w) 0 then cntR L u v (Nat.lor w S) else 0)) = _
    rw [cntR_eq L, cntR_eq L, cntR_eq L, beq0, beq0, beq0]; rfl

noncomputable def sizeL (i : Nat) (L : List Nat) : Nat := L.countP fun S => S.testBit i
noncomputable def pairL (a b : Nat) (L : List Nat) : Nat := L.countP fun S => S.testBit a && S.testBit b
noncomputable def wayL : Nat → Nat
  | 0 => 1 | 1 => 3 | 2 => 6 | 3 => 6 | _ => 0
noncomputable def smallB (L : List Nat) : Bool := Nat.ble (sizeL 0 L) 3 && (Nat.ble (sizeL 1 L) 3 && (Nat.ble (sizeL 2 L) 3 && Nat.ble (sizeL 3 L) 3))
noncomputable def finB (a1 b1 a2 b2 a3 b3 : Nat) (L : List Nat) : Bool :=
  bif smallB L then
    Nat.beq (Nat.mul (cntR L 0 0 0) (Nat.mul (Nat.mul (wayL (pairL a1 b1 L)) (wayL (pairL a2 b2 L))) (wayL (pairL a3 b3 L)))) (Nat.mul (Nat.mul (Nat.mul (Nat.mul (wayL (sizeL 0 L)) (wayL (sizeL 1 L))) (wayL (sizeL 2 L))) (wayL (sizeL 3 L))) (Nat.pow 3 (L.count 0)))
  else true
noncomputable def Hpath : List Nat := [0, 1, 2, 3, 4, 6, 7, 8, 12, 14, 15]
noncomputable def Hstar : List Nat := [0, 1, 2, 3, 4, 5, 7, 8, 9, 11, 13, 15]
theorem fin_path : allR (finB 0 1 1 2 2 3) [0, 1, 2, 3, 4, 6, 7, 8, 12, 14, 15] 5 [] = true := by decide +kernel
theorem fin_star : allR (finB 0 1 0 2 0 3) [0, 1, 2, 3, 4, 5, 7, 8, 9, 11, 13, 15] 5 [] = true := by decide +kernel

/-- the equation, for a tree of three ties -/
noncomputable def FinP (a1 b1 a2 b2 a3 b3 : Nat) (L : List Nat) : Prop :=
  cnt L 0 0 0 * (wayL (pairL a1 b1 L) * wayL (pairL a2 b2 L) * wayL (pairL a3 b3 L)) = wayL (sizeL 0 L) * wayL (sizeL 1 L) * wayL (sizeL 2 L) * wayL (sizeL 3 L) * 3 ^ L.count 0
theorem sizeL_perm {L M : List Nat} (h : L.Perm M) (i : Nat) : sizeL i L = sizeL i M := h.countP_eq _
theorem pairL_perm {L M : List Nat} (h : L.Perm M) (a b : Nat) : pairL a b L = pairL a b M := h.countP_eq _
theorem finP_of {a1 b1 a2 b2 a3 b3 : Nat} {H : List Nat} (hd : allR (finB a1 b1 a2 b2 a3 b3) H 5 [] = true) {L : List Nat} (hl : L.length = 5) (hm : ∀ x ∈ L, x ∈ H) (hs : ∀ i, i < 4 → sizeL i L ≤ 3) : FinP a1 b1 a2 b2 a3 b3 L := by
  obtain ⟨M, hp, q⟩ := allR_sound H 5 [] hd L hl hm
  rw [List.append_nil] at hp
  have sm : smallB M = true := by
    unfold smallB
    simp only [Bool.and_eq_true, Nat.ble_eq]
    rw [sizeL_perm hp, sizeL_perm hp, sizeL_perm hp, sizeL_perm hp]
    exact ⟨hs 0 (by decide), hs 1 (by decide), hs 2 (by decide), hs 3 (by decide)⟩
  unfold finB at q
  rw [sm] at q
  have q' := Nat.eq_of_beq_eq_true q
  rw [cntR_eq] at q'
  unfold FinP
  rw [← cnt_perm hp, ← pairL_perm hp, ← pairL_perm hp, ← pairL_perm hp, ← sizeL_perm hp, ← sizeL_perm hp, ← sizeL_perm hp, ← sizeL_perm hp, ← hp.count_eq]
  exact q'

/-- the bags in another order -/
noncomputable def pm (p0 p1 p2 p3 S : Nat) : Nat := mask (S.testBit p0) (S.testBit p1) (S.testBit p2) (S.testBit p3)
section
variable {p0 p1 p2 p3 : Nat}
theorem pm_lt (S : Nat) : pm p0 p1 p2 p3 S < 16 := mask_lt _ _ _ _
theorem pm_or (u S : Nat) : (pm p0 p1 p2 p3 u ||| pm p0 p1 p2 p3 S) = pm p0 p1 p2 p3 (u ||| S) := by
  unfold pm
  rw [Nat.testBit_or, Nat.testBit_or, Nat.testBit_or, Nat.testBit_or]
  exact mq_or (u.testBit p0, u.testBit p1, u.testBit p2, u.testBit p3) (S.testBit p0, S.testBit p1, S.testBit p2, S.testBit p3)
theorem pm_and (u S : Nat) : (pm p0 p1 p2 p3 u &&& pm p0 p1 p2 p3 S) = pm p0 p1 p2 p3 (u &&& S) := by
  unfold pm
  rw [Nat.testBit_and, Nat.testBit_and, Nat.testBit_and, Nat.testBit_and, mask_land]
theorem or16 {u S : Nat} (h : u < 16) (k : S < 16) : (u ||| S) < 16 := Nat.or_lt_two_pow (n := 4) h k
theorem cnt_map (hz : ∀ X, X < 16 → (pm p0 p1 p2 p3 X == 0) = (X == 0)) : ∀ (L : List Nat) (u v w : Nat), (∀ S ∈ L, S < 16) → u < 16 → v < 16 → w < 16 →
    cnt (L.map (pm p0 p1 p2 p3)) (pm p0 p1 p2 p3 u) (pm p0 p1 p2 p3 v) (pm p0 p1 p2 p3 w) = cnt L u v w
  | [], _, _, _, _, _, _, _ => rfl
  | S :: L, u, v, w, hL, hu, hv, hw => by
    have hS := hL S (.head _)
    have hL' : ∀ T ∈ L, T < 16 := fun T hT => hL T (.tail _ hT)
    simp only [List.map_cons, cnt, pm_and, pm_or]
    rw [hz _ (Nat.lt_of_le_of_lt Nat.and_le_left hS), hz _ (Nat.lt_of_le_of_lt Nat.and_le_left hS), hz _ (Nat.lt_of_le_of_lt Nat.and_le_left hS),
      cnt_map hz L _ _ _ hL' (or16 hu hS) hv hw, cnt_map hz L _ _ _ hL' hu (or16 hv hS) hw, cnt_map hz L _ _ _ hL' hu hv (or16 hw hS)]
noncomputable def pmx (p0 p1 p2 p3 : Nat) : Nat → Nat
  | 0 => p0 | 1 => p1 | 2 => p2 | _ => p3
theorem pm_bit (S i : Nat) (hi : i < 4) : (pm p0 p1 p2 p3 S).testBit i = S.testBit (pmx p0 p1 p2 p3 i) := by
  obtain ⟨m0, m1, m2, m3⟩ := mask_bits (S.testBit p0) (S.testBit p1) (S.testBit p2) (S.testBit p3)
  unfold pm
  match i, hi with
  | 0, _ => exact m0
  | 1, _ => exact m1
  | 2, _ => exact m2
  | 3, _ => exact m3
theorem size_map (L : List Nat) (i : Nat) (hi : i < 4) : sizeL i (L.map (pm p0 p1 p2 p3)) = sizeL (pmx p0 p1 p2 p3 i) L := by
  unfold sizeL
  rw [List.countP_map]
  exact List.countP_congr fun S _ => by
    show (pm p0 p1 p2 p3 S).testBit i = true ↔ _
    rw [pm_bit S i hi]
theorem pair_map (L : List Nat) (a b : Nat) (ha : a < 4) (hb : b < 4) : pairL a b (L.map (pm p0 p1 p2 p3)) = pairL (pmx p0 p1 p2 p3 a) (pmx p0 p1 p2 p3 b) L := by
  unfold pairL
  rw [List.countP_map]
  exact List.countP_congr fun S _ => by
    show ((pm p0 p1 p2 p3 S).testBit a && (pm p0 p1 p2 p3 S).testBit b) = true ↔ _
    rw [pm_bit S a ha, pm_bit S b hb]
theorem count_map0 (hz : ∀ X, X < 16 → (pm p0 p1 p2 p3 X == 0) = (X == 0)) (L : List Nat) (hL : ∀ S ∈ L, S < 16) : (L.map (pm p0 p1 p2 p3)).count 0 = L.count 0 := by
  unfold List.count
  rw [List.countP_map]
  exact List.countP_congr fun S hS => by
    show (pm p0 p1 p2 p3 S == 0) = true ↔ _
    rw [hz S (hL S hS)]
theorem pairL_comm (a b : Nat) (L : List Nat) : pairL a b L = pairL b a L := by
  unfold pairL
  exact List.countP_congr fun S _ => by rw [Bool.and_comm]
theorem fin_moved (hz : ∀ X, X < 16 → (pm p0 p1 p2 p3 X == 0) = (X == 0)) {a1 b1 a2 b2 a3 b3 : Nat} (hab : a1 < 4 ∧ b1 < 4 ∧ a2 < 4 ∧ b2 < 4 ∧ a3 < 4 ∧ b3 < 4) {H : List Nat} (hd : allR (finB a1 b1 a2 b2 a3 b3) H 5 [] = true)
    (hp : p0 < 4 ∧ p1 < 4 ∧ p2 < 4 ∧ p3 < 4) {L : List Nat} (hl : L.length = 5) (h16 : ∀ S ∈ L, S < 16) (hm : ∀ S ∈ L, pm p0 p1 p2 p3 S ∈ H) (hs : ∀ i, i < 4 → sizeL i L ≤ 3) :
    cnt L 0 0 0 * (wayL (pairL (pmx p0 p1 p2 p3 a1) (pmx p0 p1 p2 p3 b1) L) * wayL (pairL (pmx p0 p1 p2 p3 a2) (pmx p0 p1 p2 p3 b2) L) * wayL (pairL (pmx p0 p1 p2 p3 a3) (pmx p0 p1 p2 p3 b3) L)) = wayL (sizeL p0 L) * wayL (sizeL p1 L) * wayL (sizeL p2 L) * wayL (sizeL p3 L) * 3 ^ L.count 0 := by
  have k := finP_of hd (L := L.map (pm p0 p1 p2 p3)) (by rw [List.length_map]; exact hl) (fun x hx => by obtain ⟨S, q1, rfl⟩ := List.mem_map.mp hx; exact hm S q1) (fun i hi => by
    rw [size_map L i hi]
    refine hs _ ?_
    obtain ⟨q0, q1, q2, q3⟩ := hp
    match i, hi with
    | 0, _ => exact q0
    | 1, _ => exact q1
    | 2, _ => exact q2
    | 3, _ => exact q3)
  unfold FinP at k
  obtain ⟨r1, r2, r3, r4, r5, r6⟩ := hab
  have z := cnt_map hz L 0 0 0 h16 (by decide) (by decide) (by decide)
  have e0 : pm p0 p1 p2 p3 0 = 0 := eq_of_beq ((hz 0 (by decide)).trans rfl)
  rw [e0] at z
  rw [z, pair_map L _ _ r1 r2, pair_map L _ _ r3 r4, pair_map L _ _ r5 r6, size_map L 0 (by decide), size_map L 1 (by decide), size_map L 2 (by decide), size_map L 3 (by decide), count_map0 hz L h16] at k
  exact k
end
/-- the equation at a tree -/
noncomputable def FinT (t : Nat × Nat × Nat) (L : List Nat) : Prop :=
  cnt L 0 0 0 * (wayL (pairL (endsOf t.1).1 (endsOf t.1).2 L) * wayL (pairL (endsOf t.2.1).1 (endsOf t.2.1).2 L) * wayL (pairL (endsOf t.2.2).1 (endsOf t.2.2).2 L)) = wayL (sizeL 0 L) * wayL (sizeL 1 L) * wayL (sizeL 2 L) * wayL (sizeL 3 L) * 3 ^ L.count 0
noncomputable def prodL (l : List Nat) : Nat := l.foldr (· * ·) 1
theorem prodL_perm {l m : List Nat} (h : l.Perm m) : prodL l = prodL m := by
  induction h with
  | nil => rfl
  | cons x _ ih => exact congrArg (x * ·) ih
  | swap x y l => exact Nat.mul_left_comm y x (prodL l)
  | trans _ _ ih1 ih2 => exact ih1.trans ih2
theorem prod3 (a b d : Nat) : prodL [a, b, d] = a * b * d := by
  show a * (b * (d * 1)) = _
  rw [Nat.mul_one, Nat.mul_assoc]
theorem prod4 (a b d e : Nat) : prodL [a, b, d, e] = a * b * d * e := by
  show a * (b * (d * (e * 1))) = _
  rw [Nat.mul_one, Nat.mul_assoc, Nat.mul_assoc]
noncomputable def normP (e : Nat × Nat) : Nat × Nat := bif Nat.ble e.1 e.2 then e else (e.2, e.1)
theorem pair_norm (e : Nat × Nat) (L : List Nat) : pairL (normP e).1 (normP e).2 L = pairL e.1 e.2 L := by
  unfold normP
  cases Nat.ble e.1 e.2
  · exact pairL_comm _ _ _
  · rfl
noncomputable abbrev Move := (Nat × Nat × Nat) × Bool × (Nat × Nat × Nat × Nat)
noncomputable def moves : List Move := [((2, 1, 0), true, (0, 1, 2, 3)), ((3, 2, 0), false, (2, 1, 0, 3)), ((3, 2, 1), false, (1, 2, 0, 3)), ((4, 1, 0), false, (2, 0, 1, 3)), ((4, 2, 1), false, (1, 3, 0, 2)), ((4, 3, 0), true, (1, 0, 2, 3)), ((4, 3, 1), false, (0, 2, 1, 3)), ((4, 3, 2), false, (0, 3, 1, 2)), ((5, 1, 0), false, (1, 0, 2, 3)), ((5, 2, 0), false, (1, 0, 3, 2)), ((5, 3, 0), false, (0, 1, 2, 3)), ((5, 3, 1), true, (2, 0, 1, 3)), ((5, 3, 2), false, (0, 3, 2, 1)), ((5, 4, 0), false, (0, 1, 3, 2)), ((5, 4, 1), false, (0, 2, 3, 1)), ((5, 4, 2), true, (3, 0, 1, 2))]
noncomputable def edgesOf (star : Bool) : List (Nat × Nat) := bif star then [(0, 1), (0, 2), (0, 3)] else [(0, 1), (1, 2), (2, 3)]
noncomputable def moveB (m : Move) : Bool :=
  ((List.range 16).all fun S => ((pm m.2.2.1 m.2.2.2.1 m.2.2.2.2.1 m.2.2.2.2.2 S == 0) == (S == 0)) && (!hangB m.1 S || (bif m.2.1 then Hstar else Hpath).contains (pm m.2.2.1 m.2.2.2.1 m.2.2.2.2.1 m.2.2.2.2.2 S))) &&
  ([endsOf m.1.1, endsOf m.1.2.1, endsOf m.1.2.2].map normP).isPerm ((edgesOf m.2.1).map fun e => normP (pmx m.2.2.1 m.2.2.2.1 m.2.2.2.2.1 m.2.2.2.2.2 e.1, pmx m.2.2.1 m.2.2.2.1 m.2.2.2.2.1 m.2.2.2.2.2 e.2)) &&
  [0, 1, 2, 3].isPerm [m.2.2.1, m.2.2.2.1, m.2.2.2.2.1, m.2.2.2.2.2]
theorem moves_ok : moves.all moveB = true := by decide +kernel
theorem moves_trees : moves.map (·.1) = trees := by decide +kernel
theorem finT_all {t : Nat × Nat × Nat} (ht : t ∈ trees) {L : List Nat} (hl : L.length = 5) (h16 : ∀ S ∈ L, S < 16) (hm : ∀ S ∈ L, hangB t S = true) (hs : ∀ i, i < 4 → sizeL i L ≤ 3) : FinT t L := by
  rw [← moves_trees] at ht
  obtain ⟨⟨t', star, p0, p1, p2, p3⟩, hm', rfl⟩ := List.mem_map.mp ht
  have q := List.all_eq_true.mp moves_ok _ hm'
  unfold moveB at q
  simp only [Bool.and_eq_true] at q
  obtain ⟨⟨q1, q2⟩, q3⟩ := q
  have q1' := List.all_eq_true.mp q1
  simp only [Bool.and_eq_true, beq_iff_eq] at q1'
  have r2 := List.isPerm_iff.mp q2
  have r3 := List.isPerm_iff.mp q3
  have hp : p0 < 4 ∧ p1 < 4 ∧ p2 < 4 ∧ p3 < 4 := by
    have : ∀ x ∈ [p0, p1, p2, p3], x < 4 := fun x hx => (by decide : ∀ x ∈ [0, 1, 2, 3], x < 4) x (r3.mem_iff.mpr hx)
    exact ⟨this _ (by simp), this _ (by simp), this _ (by simp), this _ (by simp)⟩
  have hz : ∀ X, X < 16 → (pm p0 p1 p2 p3 X == 0) = (X == 0) := fun X hX => (q1' X (List.mem_range.mpr hX)).1
  have hH : ∀ S ∈ L, pm p0 p1 p2 p3 S ∈ (bif star then Hstar else Hpath) := fun S hS => by
    have w := (q1' S (List.mem_range.mpr (h16 S hS))).2
    rw [hm S hS] at w
    exact List.contains_iff_mem.mp w
  have key : cnt L 0 0 0 * prodL ((edgesOf star).map fun e => wayL (pairL (pmx p0 p1 p2 p3 e.1) (pmx p0 p1 p2 p3 e.2) L)) = prodL ([p0, p1, p2, p3].map fun i => wayL (sizeL i L)) * 3 ^ L.count 0 := by
    cases star with
    | true =>
      refine Eq.trans ?_ ((fin_moved hz (by decide) fin_star hp hl h16 hH hs).trans ?_)
      · exact congrArg (cnt L 0 0 0 * ·) (prod3 _ _ _)
      · exact congrArg (· * 3 ^ L.count 0) (prod4 _ _ _ _).symm
    | false =>
      refine Eq.trans ?_ ((fin_moved hz (by decide) fin_path hp hl h16 hH hs).trans ?_)
      · exact congrArg (cnt L 0 0 0 * ·) (prod3 _ _ _)
      · exact congrArg (· * 3 ^ L.count 0) (prod4 _ _ _ _).symm
  have e2 := prodL_perm (r2.map fun e => wayL (pairL e.1 e.2 L))
  rw [List.map_map, List.map_map] at e2
  simp only [Function.comp_def, pair_norm] at e2
  have e3 := prodL_perm (r3.map fun i => wayL (sizeL i L))
  unfold FinT
  refine (congrArg (cnt L 0 0 0 * ·) (prod3 _ _ _).symm).trans ?_
  refine Eq.trans ?_ (congrArg (· * 3 ^ L.count 0) (prod4 _ _ _ _))
  exact (congrArg (cnt L 0 0 0 * ·) e2).trans (key.trans (congrArg (· * 3 ^ L.count 0) e3.symm))
end Mine
end

/-! Qo -/
section
set_option maxRecDepth 100000
set_option maxHeartbeats 4000000
namespace Mine
open PySem

theorem bestW_eq {sh : List Int} {s : Int} : ∀ (l : List (Nat × Nat × Nat)) (h : Int), h ≤ s → (∀ t ∈ l, wt sh t ≤ s) → (h = s ∨ ∃ t ∈ l, wt sh t = s) → (l.foldl (fun h t => if wt sh t > h then wt sh t else h) h) = s
  | [], h, _, _, hx => by
    rcases hx with hx | ⟨t, ht, _⟩
    · exact hx
    · exact absurd ht List.not_mem_nil
  | a :: l, h, h1, h2, hx => by
    rw [List.foldl_cons]
    have ha := h2 a (.head _)
    have hr : ∀ t ∈ l, wt sh t ≤ s := fun t ht => h2 t (.tail _ ht)
    by_cases g : wt sh a > h
    · rw [if_pos g]
      refine bestW_eq l _ ha hr ?_
      rcases hx with hx | ⟨t, ht, e⟩
      · omega
      · rcases List.mem_cons.mp ht with rfl | q
        · exact Or.inl e
        · exact Or.inr ⟨t, q, e⟩
    · rw [if_neg g]
      refine bestW_eq l _ h1 hr ?_
      rcases hx with hx | ⟨t, ht, e⟩
      · exact Or.inl hx
      · rcases List.mem_cons.mp ht with rfl | q
        · left; omega
        · exact Or.inr ⟨t, q, e⟩

theorem way_nat (n : Nat) : wayAt (n : Int) = (wayL n : Int) := by
  match n with
  | 0 => rfl
  | 1 => rfl
  | 2 => rfl
  | 3 => rfl
  | n + 4 => rfl

section
variable {b0 b1 b2 b3 : List Int}
noncomputable abbrev cols (b0 b1 b2 b3 : List Int) : List Nat := [col b0 b1 b2 b3 0, col b0 b1 b2 b3 1, col b0 b1 b2 b3 2, col b0 b1 b2 b3 3, col b0 b1 b2 b3 4]
theorem countP5 (f : Nat → Bool) (a b d e g : Nat) : (([a, b, d, e, g].countP f : Nat) : Int) = one (f a) + one (f b) + one (f d) + one (f e) + one (f g) := by
  rw [List.countP_eq_length_filter, flen]; exact sum5 _ _ _ _ _
theorem tie_nat (k : Nat) : ((pairL (endsOf k).1 (endsOf k).2 (cols b0 b1 b2 b3) : Nat) : Int) = shareC (col b0 b1 b2 b3) k := by
  unfold pairL
  rw [countP5]; rfl
theorem size_nat (h0 : b0 ∈ allBags) (h1 : b1 ∈ allBags) (h2 : b2 ∈ allBags) (h3 : b3 ∈ allBags) :
    ((sizeL 0 (cols b0 b1 b2 b3) : Nat) : Int) = b0.length ∧ ((sizeL 1 (cols b0 b1 b2 b3) : Nat) : Int) = b1.length ∧ ((sizeL 2 (cols b0 b1 b2 b3) : Nat) : Int) = b2.length ∧ ((sizeL 3 (cols b0 b1 b2 b3) : Nat) : Int) = b3.length := by
  unfold sizeL
  rw [countP5, countP5, countP5, countP5, len_bags b0 h0, len_bags b1 h1, len_bags b2 h2, len_bags b3 h3]
  unfold col
  simp only [(mask_bits _ _ _ _).1, (mask_bits _ _ _ _).2.1, (mask_bits _ _ _ _).2.2.1, (mask_bits _ _ _ _).2.2.2, and_self]
theorem count_setL : ∀ L : List Nat, (∀ S ∈ L, S ∈ List.range 16) → (L.map setL).count [] = L.count 0
  | [], _ => rfl
  | S :: L, h => by
    rw [List.map_cons, List.count_cons, List.count_cons, count_setL L (fun T hT => h T (.tail _ hT))]
    have e := (setL_len S (h S (.head _))).2
    have e' : (setL S == []) = (S == 0) := by
      rw [← e]; cases setL S <;> rfl
    rw [e']
theorem cols16 : ∀ S ∈ cols b0 b1 b2 b3, S ∈ List.range 16 := by
  intro S hS
  simp only [List.mem_cons, List.not_mem_nil, or_false] at hS
  rcases hS with rfl | rfl | rfl | rfl | rfl <;> exact col_lt _
theorem v4_of {k : Int} (h0 : 0 ≤ k) (h3 : k ≤ 3) : k ∈ V4 := by
  have : k = 0 ∨ k = 1 ∨ k = 2 ∨ k = 3 := by omega
  rcases this with rfl | rfl | rfl | rfl <;> decide
theorem share_lt {b b' : List Int} (h : b ∈ allBags) : (0 : Int) ≤ ((b.filter fun p => decide (p ∈ b')).length : Int) ∧ ((b.filter fun p => decide (p ∈ b')).length : Int) ≤ 3 := by
  have h1 := (bagOk_parts b h).2.1
  have h2 := List.length_filter_le (fun p => decide (p ∈ b')) b
  omega

theorem fin_of (h0 : b0 ∈ allBags) (h1 : b1 ∈ allBags) (h2 : b2 ∈ allBags) (h3 : b3 ∈ allBags) {t : Nat × Nat × Nat} (ht : t ∈ trees) (hh : hangAll b0 b1 b2 b3 t = true) :
    (paintN [b0, b1, b2, b3] rainbowN : Int) * wayP ((sharedN [b0, b1, b2, b3]).getD t.1 0) ((sharedN [b0, b1, b2, b3]).getD t.2.1 0) ((sharedN [b0, b1, b2, b3]).getD t.2.2 0) =
      (wayAt b0.length * wayAt b1.length * wayAt b2.length * wayAt b3.length) * 3 ^ ((holdersN [b0, b1, b2, b3]).count []) := by
  obtain ⟨s0, s1, s2, s3⟩ := size_nat h0 h1 h2 h3
  have l0 := (bagOk_parts b0 h0).2.1
  have l1 := (bagOk_parts b1 h1).2.1
  have l2 := (bagOk_parts b2 h2).2.1
  have l3 := (bagOk_parts b3 h3).2.1
  have k := finT_all ht (L := cols b0 b1 b2 b3) rfl (fun S hS => List.mem_range.mp (cols16 S hS)) (fun S hS => by
      unfold hangAll at hh
      simp only [Bool.and_eq_true] at hh
      obtain ⟨⟨⟨⟨g0, g1⟩, g2⟩, g3⟩, g4⟩ := hh
      simp only [List.mem_cons, List.not_mem_nil, or_false] at hS
      rcases hS with rfl | rfl | rfl | rfl | rfl <;> assumption) (fun i hi => by
      match i, hi with
      | 0, _ => omega
      | 1, _ => omega
      | 2, _ => omega
      | 3, _ => omega)
  unfold FinT at k
  obtain ⟨m1, m2, m3⟩ := tree_lt t ht
  rw [paint_eq h0 h1 h2 h3, shared_at h0 h1 h2 h3 m1, shared_at h0 h1 h2 h3 m2, shared_at h0 h1 h2 h3 m3, ← tie_nat, ← tie_nat, ← tie_nat, ← s0, ← s1, ← s2, ← s3]
  have ec : (holdersN [b0, b1, b2, b3]).count [] = (cols b0 b1 b2 b3).count 0 := by
    rw [holders_eq]; exact count_setL (cols b0 b1 b2 b3) cols16
  unfold wayP
  rw [ec, way_nat, way_nat, way_nat, way_nat, way_nat, way_nat, way_nat]
  have k' := congrArg (fun n : Nat => (n : Int)) k
  simp only [Int.natCast_mul, Int.natCast_pow] at k'
  exact k'

theorem lawOk_of (h0 : b0 ∈ allBags) (h1 : b1 ∈ allBags) (h2 : b2 ∈ allBags) (h3 : b3 ∈ allBags) : LawOk [b0, b1, b2, b3] := by
  have eS : sharedN [b0, b1, b2, b3] = vec ((b0.filter fun p => decide (p ∈ b1)).length : Int) ((b0.filter fun p => decide (p ∈ b2)).length : Int) ((b0.filter fun p => decide (p ∈ b3)).length : Int) ((b1.filter fun p => decide (p ∈ b2)).length : Int) ((b1.filter fun p => decide (p ∈ b3)).length : Int) ((b2.filter fun p => decide (p ∈ b3)).length : Int) := rfl
  have hsh : ∀ k, k < 6 → 0 ≤ (sharedN [b0, b1, b2, b3]).getD k 0 ∧ (sharedN [b0, b1, b2, b3]).getD k 0 ≤ 3 := by
    intro k hk
    rw [eS]
    match k, hk with
    | 0, _ => exact share_lt h0
    | 1, _ => exact share_lt h0
    | 2, _ => exact share_lt h0
    | 3, _ => exact share_lt h1
    | 4, _ => exact share_lt h1
    | 5, _ => exact share_lt h2
  have hd : ∀ k ∈ List.range 6, (sharedN [b0, b1, b2, b3]).getD k 0 ∈ V4d := fun k hk => by
    obtain ⟨q1, q2⟩ := hsh k (List.mem_range.mp hk)
    have : (sharedN [b0, b1, b2, b3]).getD k 0 = 3 ∨ (sharedN [b0, b1, b2, b3]).getD k 0 = 2 ∨ (sharedN [b0, b1, b2, b3]).getD k 0 = 1 ∨ (sharedN [b0, b1, b2, b3]).getD k 0 = 0 := by omega
    unfold V4d
    simp only [List.mem_cons, List.not_mem_nil, or_false]
    exact this
  obtain ⟨a, b, d, eg, gall', ⟨t, ht, gw, gp⟩, ⟨a0, a3⟩, ⟨c0, c3⟩, ⟨d0, d3⟩⟩ := greedy_ok hsh hd
  have hv : heaviestN tiesN (sharedN [b0, b1, b2, b3]) = a + b + d := by
    rw [heaviest_eq, trees_eq]
    exact bestW_eq trees 0 (by omega) gall' (Or.inr ⟨t, ht, gw⟩)
  obtain ⟨wm, we⟩ := wt_most h0 h1 h2 h3 ht
  refine ⟨rfl, ?_, hsh, ord_perm hd, ord_sorted _, good_of h0 h1 h2 h3, ?_, ?_, ?_⟩
  · intro b hb
    simp only [List.mem_cons, List.not_mem_nil, or_false] at hb
    rcases hb with rfl | rfl | rfl | rfl <;> exact bagOk_of (by assumption)
  · rw [eg, hv]
    show a + (b + (d + 0)) = a + b + d
    omega
  · rw [hv]
    cases hn : noRingN [b0, b1, b2, b3] with
    | true =>
      obtain ⟨t', ht', hh⟩ := hang_of_noRing hn
      obtain ⟨wm', we'⟩ := wt_most h0 h1 h2 h3 ht'
      rw [hh, beq_iff_eq] at we'
      have := gall' t' ht'
      rw [beq_iff_eq]; omega
    | false =>
      rw [beq_eq_false_iff_ne]
      intro e
      rw [gw, e, beq_self_eq_true] at we
      rw [noRing_of_hang ht we.symm] at hn
      cases hn
  · intro hx
    rw [hv] at hx
    have e : wt (sharedN [b0, b1, b2, b3]) t = mostN [b0, b1, b2, b3] := by omega
    have hh : hangAll b0 b1 b2 b3 t = true := by rw [← we, e]; exact beq_self_eq_true _
    refine ⟨a, b, d, eg, ⟨a0, a3⟩, ⟨c0, c3⟩, ⟨d0, d3⟩, ?_⟩
    have f := fin_of h0 h1 h2 h3 ht hh
    rw [← gp] at f
    exact f
end
theorem lawOk_all (script : List Int) : LawOk (bagsN script) := by
  obtain ⟨b0, h0, b1, h1, b2, h2, b3, h3, e⟩ := bagsN_form script
  rw [e]
  exact lawOk_of h0 h1 h2 h3
end Mine
end

/-! FnR -/
open PySem PySem.W PyProof.Rows
set_option maxRecDepth 100000
set_option maxHeartbeats 4000000
namespace Mine
open PySem.Calls PySem.Spec
variable {c : Cx} {n : Nat}

theorem HasFn.atJ {f : Str} {params : Arguments} {body : List Stmt} {scope : Scope} (j : Nat) (h : ∃ d, (recsOf c.p)[j]? = some d ∧ d.name = f ∧ d.params = params ∧ d.body = body ∧ d.scope = scope) : HasFn c f params body scope := by
  obtain ⟨d, h1, h2⟩ := h
  exact ⟨d, List.mem_of_getElem? h1, h2⟩

/-- what the law's walk needs of the top that the head finds -/
noncomputable abbrev lawCx (v : Program) (w : World) (s₀ : Shared) (mg mb : Str → Option Value) : Cx := ⟨PySem.Challenge.rw_tr0005_01.row.prog, w, v, looseW v [], ExcName.means s₀.heap, mg, mb⟩
noncomputable abbrev bareNames : List Str := [S0 "sum", S0 "range", S0 "len", S0 "zip", S0 "max", S0 "min", S0 "round", S0 "sorted"]
/-- the j-th def of the top is the i-th statement of the law's text -/
noncomputable def DefAt (v : Program) (f : Str) (j i : Nat) : Prop := ∃ d, (recsOf v)[j]? = some d ∧ d.name = f ∧ d.params = (fnAt i).params ∧ d.body = (fnAt i).body ∧ d.scope = (fnAt i).scope
structure TopOk (v : Program) : Prop where
  nn : ∀ x ∈ bareNames, x ∉ startupNames ∧ x ∉ looseW v [] ∧ x ∉ (recsOf v).map (·.name) ∧ x ∉ (litsOf v).map (·.1) ∧ x ∉ (clssOf v (looseW v [])).map (·.name)
  bag : ∃ j, DefAt v (S0 "_law_bag") j 8
  rainbow : ∃ j, DefAt v (S0 "_law_rainbow") j 9
  greedy : ∃ j, DefAt v (S0 "_law_greedy") j 10
  hangs : ∃ j, DefAt v (S0 "_law_hangs") j 11
  heaviest : ∃ j, DefAt v (S0 "_law_heaviest") j 12
  no_ring : ∃ j, DefAt v (S0 "_law_no_ring") j 13
  unlike : ∃ j, DefAt v (S0 "_law_unlike") j 14
  paintings : ∃ j, DefAt v (S0 "_law_paintings") j 15
  ppv : ∃ j, DefAt v (S0 "_post_parse_validation") j 3
  strxfrm : ∃ j, DefAt v (S0 "_strxfrm") j 5
  localename : ∃ j, DefAt v (S0 "_build_localename") j 6
  hsv : ∃ j, DefAt v (S0 "rgb_to_hsv") j 1
  law : ∃ j, DefAt v (S0 "law") j 16
theorem has_of {v : Program} {w : World} {s₀ : Shared} {mg mb : Str → Option Value} {f : Str} {i : Nat} (h : ∃ j, DefAt v f j i) : HasFn (lawCx v w s₀ mg mb) f (fnAt i).params (fnAt i).body (fnAt i).scope := by
  obtain ⟨j, h⟩ := h
  exact HasFn.atJ j h
theorem wd_of {v : Program} (k : TopOk v) {w : World} {s₀ : Shared} {mg mb : Str → Option Value} {h : Heap} (T : (lawCx v w s₀ mg mb).Base h) : Wd (lawCx v w s₀ mg mb) := by
  have T : Top v (looseW v []) (ExcName.means s₀.heap) mg mb h := T
  have fr : ∀ x ∈ bareNames, mg x = none := fun x hx => let q := k.nn x hx; T.free x q.1 q.2.1 q.2.2.1 q.2.2.2.1 q.2.2.2.2
  refine { sum := ?_, range := ?_, len := ?_, zip := ?_, max := ?_, min := ?_, round := ?_, sorted := ?_, ref := ?_, bag := has_of k.bag, rainbow := has_of k.rainbow, greedy := has_of k.greedy, hangs := has_of k.hangs, heaviest := has_of k.heaviest, no_ring := has_of k.no_ring, unlike := has_of k.unlike, paintings := has_of k.paintings, ppv := has_of k.ppv, strxfrm := has_of k.strxfrm, localename := has_of k.localename, hsv := has_of k.hsv }
  · exact fr _ (by simp)
  · exact fr _ (by simp)
  · exact fr _ (by simp)
  · exact fr _ (by simp)
  · exact fr _ (by simp)
  · exact fr _ (by simp)
  · exact fr _ (by simp)
  · exact fr _ (by simp)
  · intro f hf
    obtain ⟨d, h1, h2⟩ := List.mem_map.mp hf
    obtain ⟨a, o, pm, code, doc, e, _⟩ := T.fn d h1
    exact ⟨a, by rw [← h2]; exact e⟩
theorem ints_relL {h : Heap} {Z : Addr → Prop} : ∀ {vs : List Value} {l : List Int}, IntsAre vs l → RelL h Z (l.map .int) vs
  | _, _, .nil => .nil
  | _, _, .cons i t r => .cons (.int i t) (ints_relL r)

theorem law_call (w : Wd c) (hf : HasFn c (S0 "law") (fnAt 16).params (fnAt 16).body (fnAt 16).scope) {script : List Int} (hs : script.length ≤ 63) (ok : LawOk (bagsN script)) :
    ∀ a, c.mg (S0 "law") = some (.ref a) → ∀ (A : Around) (s : Shared) (Z : Addr → Prop) (vs : List Value) (R : Result → Shared → Prop), Good (n + 5) A → c.Base s.heap → ZOk Z s.heap → RelL s.heap Z [zl script] vs →
      (∀ v h' tk, Keep s.heap h' → Rel h' Z (.bool true) v → R (.ok (.ret v)) { s with heap := h', toks := tk }) → codeAny c.M A (.call (.ref a) ⟨vs, []⟩) R s := by
  refine CODE.of (n := n + 4) (names := [S0 "script"]) (W := [S0 "bags", S0 "ties", S0 "shared"]) hf ?_ rfl (by decide) ?_ ?_ ?_ ?_
  · intro pm code doc vs hv
    obtain ⟨a, rfl⟩ := len1 hv
    rfl
  · intro k x hx
    simp only [List.mem_cons, List.not_mem_nil, or_false] at hx
    rcases hx with rfl
    exact .inl rfl
  · intro k x hx _
    simp only [List.mem_cons, List.not_mem_nil, or_false] at hx
    rcases hx with rfl | rfl | rfl <;> rfl
  · intro p hp
    simp only [List.mem_cons, List.not_mem_nil, or_false] at hp
    rcases hp with rfl; rfl
  intro L a cd
  exact law_body w hs ok L a cd fun bags ok => law_tail w ok L a cd (law_end w ok L a cd)

theorem good_caller : Good 20 callerA := ⟨rfl, by decide, by decide⟩

theorem wellAll_inv {P : Params} {h : Heap} {d : WData} {ds : List WData} {vs : List Value} (w : WellAll P h vs (d :: ds)) : ∃ v us, vs = v :: us ∧ Well P h v d ∧ WellAll P h us ds := by
  cases w with
  | cons a b => exact ⟨_, _, rfl, a, b⟩
theorem well_int {P : Params} {h : Heap} {i : Int} {v : Value} (w : Well P h v (.int i)) : ∃ t, v = .int i t := by cases w; exact ⟨_, rfl⟩
theorem wellAll_ints {P : Params} {h : Heap} {Z : Addr → Prop} {ns : List Int} : ∀ {vs : List Value}, WellAll P h vs (ofPys (ns.map PyData.int)) → RelL h Z (ns.map .int) vs := by
  induction ns with
  | nil =>
    intro vs w
    have w : WellAll P h vs [] := w
    cases w; exact .nil
  | cons i ns ih =>
    intro vs w
    obtain ⟨v, us, rfl, a, r'⟩ := wellAll_inv (d := .int i) (ds := ofPys (ns.map PyData.int)) w
    obtain ⟨t, rfl⟩ := well_int a
    exact .cons (.int i t) (ih r')
theorem well_script {P : Params} {h : Heap} {Z : Addr → Prop} {ns : List Int} {l : Addr} (hz : ¬ Z l) (w : Well P h (.ref l) (ofPy (PyData.list (ns.map PyData.int)))) : RelL h Z [zl ns] [.ref l] := by
  have w : Well P h (.ref l) (.list (ofPys (ns.map PyData.int))) := w
  cases w with
  | list e r => exact .one (.list hz ⟨0, e⟩ (wellAll_ints r))

theorem law_good {v : Program} (k : TopOk v) {w : World} {s₀ s₁ : Shared} {mg mb : Str → Option Value} {fa l : Addr} {ns : List Int} (T : (lawCx v w s₀ mg mb).Base s₁.heap) (hmg : mg (S0 "law") = some (.ref fa)) (hw : Well w.params s₁.heap (.ref l) (ofPy (PyData.list (ns.map PyData.int))))
    (hlen : ¬ ((63 : Nat) : Int) < (ns.length : Int)) (hg : s₁.gens = #[]) :
    codeAny (model PySem.Challenge.rw_tr0005_01.row.prog w) callerA (.call (.ref fa) ⟨[.ref l], []⟩) (GoodWG PySem.Challenge.rw_tr0005_01.row.claim (classAt s₀.heap) (ExcName.means s₀.heap) [ofPy (PyData.list (ns.map PyData.int))] s₁) s₁ := by
  refine law_call (n := 0) (c := lawCx v w s₀ mg mb) (wd_of k T) (has_of k.law) (script := ns) (by omega) (lawOk_all ns) fa hmg callerA s₁ (fun _ => False) [.ref l] _ ⟨rfl, by decide, by decide⟩ T (fun _ q => q.elim) (well_script (fun q => q) hw) fun u h' tk kp r => ?_
  cases r
  refine GoodW.toG ⟨.inl ⟨_, .bool true, [], rfl, fun cls => ?_, .bool true, ?_, fun _ => ⟨List.nodup_nil, fun a ha => by simp at ha⟩⟩, kp, rfl, hg⟩
  · rfl
  · refine postW_of (X := true) (by rfl) ?_ rfl
    delta PySem.Challenge.rw_tr0005_01 OpenLaw.row
    simp [WTm.value]
    simp [W.same]
/-! The head: the top of the text, run by the kernel; what it leaves is seen through its defs. -/
noncomputable def isDef : Stmt → Bool
  | .FunctionDef .. => true
  | _ => false
noncomputable def viewP : Program := { PySem.Challenge.pw_tr0005_01 with main := { PySem.Challenge.pw_tr0005_01.main with body := PySem.Challenge.pw_tr0005_01.main.body.filter isDef } }
noncomputable abbrev seenP (s : Shared) : Bool := xlAt viewP [] s && recOk (RowW.records PySem.Challenge.rw_tr0005_01.row.toRowW) s
set_option maxHeartbeats 0 in
theorem top_left : LeftO PySem.Challenge.rw_tr0005_01.row.prog viewP [] seenP (fun _ => ()) (fun _ => ()) 976 := by
  intro w
  kernel_rfl
local macro_rules | `(tactic| walk_at "fn") => `(tactic| first
  | exact ⟨0, _, rfl, rfl, rfl, rfl, rfl⟩
  | exact ⟨1, _, rfl, rfl, rfl, rfl, rfl⟩
  | exact ⟨2, _, rfl, rfl, rfl, rfl, rfl⟩
  | exact ⟨3, _, rfl, rfl, rfl, rfl, rfl⟩
  | exact ⟨4, _, rfl, rfl, rfl, rfl, rfl⟩
  | exact ⟨5, _, rfl, rfl, rfl, rfl, rfl⟩
  | exact ⟨6, _, rfl, rfl, rfl, rfl, rfl⟩
  | exact ⟨7, _, rfl, rfl, rfl, rfl, rfl⟩
  | exact ⟨8, _, rfl, rfl, rfl, rfl, rfl⟩
  | exact ⟨9, _, rfl, rfl, rfl, rfl, rfl⟩
  | exact ⟨10, _, rfl, rfl, rfl, rfl, rfl⟩
  | exact ⟨11, _, rfl, rfl, rfl, rfl, rfl⟩
  | exact ⟨12, _, rfl, rfl, rfl, rfl, rfl⟩
  | exact ⟨13, _, rfl, rfl, rfl, rfl, rfl⟩)
theorem top_ok : TopOk viewP := by
  refine { nn := by decide +kernel, bag := ?_, rainbow := ?_, greedy := ?_, hangs := ?_, heaviest := ?_, no_ring := ?_, unlike := ?_, paintings := ?_, ppv := ?_, strxfrm := ?_, localename := ?_, hsv := ?_, law := ?_ }
  all_goals walk_at "fn"
end Mine
set_option maxHeartbeats 0 in
theorem PySem.Challenge.cw_tr0005_01_holds : PySem.Challenge.rw_tr0005_01.Holds := by
  w_on
  o_law
  refine holds_open (q := Mine.viewP) (loose := []) (Xt := Mine.seenP) (XP := XL Mine.viewP []) (YP := fun _ _ => True) Mine.top_left (fun _ _ _ => trivial) (fun _ _ _ _ _ => trivial) (fun s e => xl_of s (Bool.and_eq_true_iff.mp e).1) XL.keeps (by rfl) (by rfl) (by rfl) (fun s e => recFacts_of (Bool.and_eq_true_iff.mp e).2) (by rfl) (by assumption) (by decide +kernel) ⟨rfl, rfl, rfl, rfl, rfl, by decide +kernel⟩ ?hw ?hc
  (case hw => w_witness2)
  intro w s₀ s₁ mg mb G Y fa o pm cd doc dV kV ho hd hcd hD hmg hg args vals as hpre hlay hrd hwl hlo
  refine Ground.open G ?_
  intro T B D TE TW
  wrow_args hpre hlay hrd hwl hlo
  all_goals (first | refine callC_kw (enter_call ?_) | refine enter_call ?_ | refine callC_kw (enter_callW ?_) | refine enter_callW ?_ | w_how)
  exact Mine.law_good Mine.top_ok T hmg (by assumption) (by assumption) hg
