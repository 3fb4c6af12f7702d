import PyProof.Rows.All
import Wide.All
import OpenK.AllK
import Wide.FinOn
import PySem.Challenge.RW_ie0011_01
open PySem PySem.W PyProof.Rows PySem.Calls
set_option Elab.async false
set_option maxRecDepth 100000

namespace Mine

/-! ## heaps that grow -/
def Solid (o : Obj) : Prop := ∀ ps, o ≠ tabObj ps

def TabP (h : Heap) (c P : Addr) (l k : Int) (qual : Str) : Prop :=
  CodeHd h c P ∧ (∀ o, h.get? c = some o → Solid o) ∧ ∃ ps, h.get? P = some (tabObj ps) ∧
    (ps = #[] ∨ ∃ c', ps = #[rawInt l, rawInt k, .ref c'] ∧ c' ≠ 30 ∧ c' ≠ 37 ∧ h.CodeRec (.ref c') qual)

def TabS (h : Heap) : Prop := TabP h 34 30 24 4 "_int2digits.<locals>.inner" ∧ TabP h 41 37 39 4 "_digits2int.<locals>.inner"

structure Ext (h h' : Heap) : Prop where
  keep : ∀ b o, (b = 30 ∨ b = 37 → Solid o) → h.get? b = some o → h'.get? b = some o
  tab : TabS h → TabS h'

theorem codeRec_keeps {h h' : Heap} {cd : Value} {q : Str} (x : h.CodeRec cd q) (hk : ∀ b o, h.get? b = some o → h'.get? b = some o) : h'.CodeRec cd q :=
  let ⟨c, o, vs, t, e, g, r⟩ := x; ⟨c, o, vs, t, e, hk _ _ g, r⟩

theorem TabP.keeps {h h' : Heap} {c P : Addr} {l k : Int} {q : Str} (x : TabP h c P l k q) (hk : ∀ b o, h.get? b = some o → h'.get? b = some o) : TabP h' c P l k q := by
  obtain ⟨hc, hs, ps, hp, hr⟩ := x
  refine ⟨hc.keeps hk, ?_, ps, hk _ _ hp, ?_⟩
  · obtain ⟨o, vs, file, tf, flags, tg, inF, text, tt, g, r⟩ := hc
    intro o' e
    rw [hk _ _ g] at e
    cases e
    exact hs _ g
  · rcases hr with e | ⟨c', e, h1, h2, hr⟩
    · exact .inl e
    · exact .inr ⟨c', e, h1, h2, codeRec_keeps hr hk⟩

theorem Ext.of_keep {h h' : Heap} (hk : ∀ b o, h.get? b = some o → h'.get? b = some o) : Ext h h' :=
  ⟨fun b o _ e => hk b o e, fun t => ⟨t.1.keeps hk, t.2.keeps hk⟩⟩
theorem Ext.refl (h : Heap) : Ext h h := .of_keep fun _ _ e => e
theorem Ext.trans {h h' h'' : Heap} (x : Ext h h') (y : Ext h' h'') : Ext h h'' :=
  ⟨fun b o q e => y.keep b o q (x.keep b o q e), fun t => y.tab (x.tab t)⟩
theorem Ext.push (h : Heap) (o : Obj) : Ext h (h.push o) := .of_keep fun _ _ e => Heap.get?_push_of_some o e
theorem Ext.solid {h h' : Heap} (x : Ext h h') {b : Addr} {o : Obj} (hs : Solid o) (e : h.get? b = some o) : h'.get? b = some o := x.keep b o (fun _ => hs) e

theorem solid_cls {o : Obj} (h : o.cls ≠ .none) : Solid o := fun ps e => h (by rw [e])
theorem solid_seq {o : Obj} {xs n} (h : o.data = .seq xs n) : Solid o := fun ps e => by rw [e] at h; cases h
theorem solid_dict {o : Obj} {es n} (h : o.data = .dict es n) : Solid o := fun ps e => by rw [e] at h; cases h
theorem solid_cell {o : Obj} {v} (h : o.data = .cell v) : Solid o := fun ps e => by rw [e] at h; cases h
theorem solid_func {o : Obj} {v} (h : o.data = .func v) : Solid o := fun ps e => by rw [e] at h; cases h

theorem Ext.ns {h h' : Heap} (x : Ext h h') {a : Addr} {m : Str → Option Value} (y : h.Ns a m) : h'.Ns a m :=
  let ⟨o, es, ep, e, hd, r⟩ := y; ⟨o, es, ep, x.solid (solid_dict hd) e, hd, r⟩
theorem Ext.cell {h h' : Heap} (x : Ext h h') {c : Addr} {v : Option Value} (y : h.IsCell c v) : h'.IsCell c v :=
  let ⟨o, e, hd⟩ := y; ⟨o, x.solid (solid_cell hd) e, hd⟩
theorem Ext.list {h h' : Heap} (x : Ext h h') {a : Addr} {xs : Array Value} (y : h.IsList a xs) : h'.IsList a xs :=
  let ⟨o, e, hc, n, hd⟩ := y; ⟨o, x.solid (solid_seq hd) e, hc, n, hd⟩
theorem Ext.plain {h h' : Heap} (x : Ext h h') {a : Addr} {xs : Array Value} (y : h.PlainList a xs) : h'.PlainList a xs :=
  let ⟨n, e⟩ := y; ⟨n, x.solid (solid_seq (xs := xs) (n := n) rfl) e⟩
theorem Ext.nolimit {h h' : Heap} (x : Ext h h') (y : h.NoLimit) : h'.NoLimit := let ⟨mc, a, b⟩ := y; ⟨mc, x.ns a, b⟩

/-- the state goes on: heap and tokens alone -/
def Go (s s' : Shared) : Prop := ∃ h' tk, s' = { s with heap := h', toks := tk } ∧ Ext s.heap h'
theorem Go.ext {s s' : Shared} (g : Go s s') : Ext s.heap s'.heap := by obtain ⟨h', tk, rfl, e⟩ := g; exact e
theorem Go.refl (s : Shared) : Go s s := ⟨s.heap, s.toks, rfl, .refl _⟩
theorem Go.trans {s s' s'' : Shared} (x : Go s s') (y : Go s' s'') : Go s s'' := by
  obtain ⟨h', tk, rfl, e⟩ := x
  obtain ⟨h'', tk', rfl, e'⟩ := y
  exact ⟨h'', tk', rfl, e.trans e'⟩
theorem Go.mk' {s : Shared} {h' : Heap} {tk : Nat} (e : Ext s.heap h') : Go s { s with heap := h', toks := tk } := ⟨h', tk, rfl, e⟩
theorem Go.tok {s : Shared} {tk : Nat} : Go s { s with toks := tk } := ⟨s.heap, tk, rfl, .refl _⟩
theorem Go.of_keeps {s s' : Shared} (k : Keeps s s') : Go s s' := let ⟨h', tk, e, hk⟩ := k; ⟨h', tk, e, .of_keep hk⟩

/-- in every state whose heap extends h the tree ends in a value with Φ, the heap extended -/
def Tr {α : Type} (prog : Program) (w : World) (A : Around) (h : Heap) (t : Sem α) (Φ : α → Heap → Prop) : Prop :=
  ∀ (s : Shared) (E : Value → Shared → Prop), Ext h s.heap → wpAny (model prog w) A t (fun v s' => Φ v s'.heap ∧ Go s s') E s

section
variable {prog : Program} {w : World} {A : Around} {h : Heap} {α β : Type}

theorem Tr.bind {t : Sem α} {f : α → Sem β} {Φ : α → Heap → Prop} {Ψ : β → Heap → Prop} (ht : Tr prog w A h t Φ)
    (hf : ∀ v h', Ext h h' → Φ v h' → Tr prog w A h' (f v) Ψ) : Tr prog w A h (t >>= f) Ψ := fun s E hx =>
  wpAny_bind (wpAny_mono (ht s E hx) (fun v s' ⟨hv, g⟩ => wpAny_mono (hf v s'.heap (hx.trans g.ext) hv s' E (.refl _)) (fun _ _ ⟨a, b⟩ => ⟨a, g.trans b⟩) fun _ _ e => e) fun _ _ e => e)
theorem Tr.pure {v : α} {Φ : α → Heap → Prop} (hv : ∀ h', Ext h h' → Φ v h') : Tr prog w A h (Pure.pure v) Φ := fun s _ hx => wpAny_pure ⟨hv _ hx, .refl s⟩
theorem Tr.mono {t : Sem α} {Φ Ψ : α → Heap → Prop} (ht : Tr prog w A h t Φ) (hm : ∀ v h', Ext h h' → Φ v h' → Ψ v h') : Tr prog w A h t Ψ := fun s E hx =>
  wpAny_mono (ht s E hx) (fun v s' ⟨a, g⟩ => ⟨hm v _ (hx.trans g.ext) a, g⟩) fun _ _ e => e
theorem Tr.up {h' : Heap} {t : Sem α} {Φ : α → Heap → Prop} (ht : Tr prog w A h t Φ) (hx : Ext h h') : Tr prog w A h' t Φ := fun s E hy => ht s E (hx.trans hy)
theorem Tr.go {t : Sem α} {Φ : α → Heap → Prop} (ht : Tr prog w A h t Φ) {s : Shared} {Q : α → Shared → Prop} {E : Value → Shared → Prop} (hx : Ext h s.heap)
    (hQ : ∀ v s', Φ v s'.heap → Go s s' → Q v s') : wpAny (model prog w) A t Q E s := wpAny_mono (ht s E hx) (fun v s' ⟨a, b⟩ => hQ v s' a b) fun _ _ e => e
end

/-! ## values -/
def IsI (a : Int) (v : Value) (_ : Heap) : Prop := ∃ t, v = .int a t
def IsB (b : Bool) (v : Value) (_ : Heap) : Prop := v = .bool b
def IsV (u : Value) (v : Value) (_ : Heap) : Prop := v = u

/-- kept by all that grows -/
def Mono {α : Type} (R : α → Value → Heap → Prop) : Prop := ∀ x v h h', Ext h h' → R x v h → R x v h'
theorem mono_I : Mono IsI := fun _ _ _ _ _ x => x

inductive All2 {α : Type} (R : α → Value → Heap → Prop) (h : Heap) : List α → List Value → Prop
  | nil : All2 R h [] []
  | cons {x : α} {v : Value} {xs : List α} {vs : List Value} : R x v h → All2 R h xs vs → All2 R h (x :: xs) (v :: vs)

def IsL {α : Type} (R : α → Value → Heap → Prop) (xs : List α) (v : Value) (h : Heap) : Prop :=
  ∃ l vs, v = .ref l ∧ h.PlainList l vs.toArray ∧ All2 R h xs vs

section
variable {α : Type} {R : α → Value → Heap → Prop} {h h' : Heap} {xs : List α} {vs : List Value}
theorem All2.length (x : All2 R h xs vs) : vs.length = xs.length := by induction x with
  | nil => rfl
  | cons _ _ ih => simp [ih]
theorem All2.up (hR : Mono R) (hx : Ext h h') (x : All2 R h xs vs) : All2 R h' xs vs := by induction x with
  | nil => exact .nil
  | cons a _ ih => exact .cons (hR _ _ _ _ hx a) ih
theorem All2.imp {R' : α → Value → Heap → Prop} (hR : ∀ x v, R x v h → R' x v h') (x : All2 R h xs vs) : All2 R' h' xs vs := by induction x with
  | nil => exact .nil
  | cons a _ ih => exact .cons (hR _ _ a) ih
theorem All2.get (x : All2 R h xs vs) : ∀ {i : Nat} {a : α}, xs[i]? = some a → ∃ v, vs[i]? = some v ∧ R a v h := by induction x with
  | nil => intro i a e; simp at e
  | @cons y v ys us hy _ ih =>
    intro i a e
    cases i with
    | zero => simp at e; subst e; exact ⟨v, rfl, hy⟩
    | succ i => simp at e; obtain ⟨u, h1, h2⟩ := ih e; exact ⟨u, by simpa using h1, h2⟩
theorem All2.get' (x : All2 R h xs vs) : ∀ {i : Nat} {v : Value}, vs[i]? = some v → ∃ a, xs[i]? = some a ∧ R a v h := by induction x with
  | nil => intro i a e; simp at e
  | @cons y v ys us hy _ ih =>
    intro i a e
    cases i with
    | zero => simp at e; subst e; exact ⟨y, rfl, hy⟩
    | succ i => simp at e; obtain ⟨u, h1, h2⟩ := ih e; exact ⟨u, by simpa using h1, h2⟩
theorem All2.append {ys : List α} {us : List Value} (x : All2 R h xs vs) (y : All2 R h ys us) : All2 R h (xs ++ ys) (vs ++ us) := by induction x with
  | nil => exact y
  | cons a _ ih => exact .cons a ih
theorem All2.take (x : All2 R h xs vs) : ∀ n : Nat, All2 R h (xs.take n) (vs.take n) := by induction x with
  | nil => intro n; simp; exact .nil
  | cons a _ ih => intro n; cases n with
    | zero => exact .nil
    | succ n => exact .cons a (ih n)
theorem All2.drop (x : All2 R h xs vs) : ∀ n : Nat, All2 R h (xs.drop n) (vs.drop n) := by induction x with
  | nil => intro n; simp; exact .nil
  | cons a y ih => intro n; cases n with
    | zero => exact .cons a y
    | succ n => exact ih n
theorem All2.reverse (x : All2 R h xs vs) : All2 R h xs.reverse vs.reverse := by induction x with
  | nil => exact .nil
  | cons a _ ih => rw [List.reverse_cons, List.reverse_cons]; exact ih.append (.cons a .nil)
theorem All2.ints {ns : List Int} (x : All2 IsI h ns vs) : IntsAre vs ns := by induction x with
  | nil => exact .nil
  | cons a _ ih => obtain ⟨t, rfl⟩ := a; exact .cons _ _ ih
theorem All2.of_ints {ns : List Int} (x : IntsAre vs ns) : All2 IsI h ns vs := by induction x with
  | nil => exact .nil
  | cons _ _ _ ih => exact .cons ⟨_, rfl⟩ ih
theorem mono_L (hR : Mono R) : Mono (IsL R) := fun _ _ _ _ hx ⟨l, vs, e, p, q⟩ => ⟨l, vs, e, hx.plain p, q.up hR hx⟩
end
theorem mono_LI : Mono (IsL IsI) := mono_L mono_I
theorem mono_LL : Mono (IsL (IsL IsI)) := mono_L mono_LI

/-! ## names -/
inductive Rd (env : Env) (x : Str) (v : Value) (h : Heap) : Prop
  | loc (m : Str → Option Value) (hk : env.scope.kind = .function) (hx : env.kindOf x = some .local) (hn : h.Ns env.locals m) (hv : m x = some v)
  | cell (c : Addr) (hk : env.scope.kind = .function) (hx : env.kindOf x = some .cell) (hc : env.cells.lookup x = some c) (hv : h.IsCell c (some v))
  | free (c : Addr) (hk : env.scope.kind = .function) (hx : env.kindOf x = some .free) (hc : env.cells.lookup x = some c) (hv : h.IsCell c (some v)) (hn : (x == ("__classdict__" : Str)) = false)
  | glob (mg : Str → Option Value) (hk : env.scope.kind = .function) (hx : env.kindOf x = some .globalImplicit) (hg : h.Ns env.globals mg) (hv : mg x = some v)
  | bui (mg mb : Str → Option Value) (hk : env.scope.kind = .function) (hx : env.kindOf x = some .globalImplicit) (hg : h.Ns env.globals mg) (hm : mg x = none) (hb : h.Ns env.builtins mb) (hv : mb x = some v)

section
variable {env : Env} {x : Str} {v : Value} {h h' : Heap}
theorem Rd.up (r : Rd env x v h) (hx : Ext h h') : Rd env x v h' := by
  cases r with
  | loc m hk hx' hn hv => exact .loc m hk hx' (hx.ns hn) hv
  | cell c hk hx' hc hv => exact .cell c hk hx' hc (hx.cell hv)
  | free c hk hx' hc hv hn => exact .free c hk hx' hc (hx.cell hv) hn
  | glob mg hk hx' hg hv => exact .glob mg hk hx' (hx.ns hg) hv
  | bui mg mb hk hx' hg hm hb hv => exact .bui mg mb hk hx' (hx.ns hg) hm (hx.ns hb) hv
theorem Rd.wp {M : Model} {A : Around} {E : Value → Shared → Prop} {s : Shared} {pos : Pos} {Q : Value → Shared → Prop} (r : Rd env x v s.heap) (hd : (x == ("__debug__" : Str)) = false) (h : Q v s) :
    wpAny M A (eval (.Name x pos) env) Q E s := by
  cases r with
  | loc m hk hx hn hv => exact wpAny_Name (wpAny_loadName_local hk hx hn hv h) hd
  | cell c hk hx hc hv => exact wpAny_Name (wpAny_loadName_cell hk hx hc hv h) hd
  | free c hk hx hc hv hn => exact wpAny_Name (wpAny_loadName_free hk hx hc hv h hn) hd
  | glob mg hk hx hg hv => exact Name_function_global hk hx (loadGlobal_global hg hv h) hd
  | bui mg mb hk hx hg hm hb hv => exact Name_function_global hk hx (loadGlobal_builtin hg hm hb hv h) hd
theorem Rd.tr {prog : Program} {w : World} {A : Around} {pos : Pos} (r : Rd env x v h) (hd : (x == ("__debug__" : Str)) = false := by decide) : Tr prog w A h (eval (.Name x pos) env) (IsV v) :=
  fun s _ hx => (r.up hx).wp hd ⟨rfl, .refl s⟩
end

section
variable {prog : Program} {w : World} {A : Around} {h : Heap} {env : Env} {pos : Pos}

theorem ev_int {i : Int} {k : Nat} : Tr prog w A h (eval (.Constant (.int i) k pos) env) (IsI i) := fun _ _ _ => wpAny_Constant_int ⟨⟨_, rfl⟩, .tok⟩
theorem ev_bool {b : Bool} {k : Nat} : Tr prog w A h (eval (.Constant (.bool b) k pos) env) (IsB b) := fun s E _ => by
  refine wpAny_of_eq (a := Value.bool b) rfl ?_
  exact ⟨rfl, .refl s⟩

theorem tr_int {t : Sem Value} {c : Int} (hop : ∀ (s : Shared) (E : Value → Shared → Prop) (Q : Value → Shared → Prop), Q (.int c s.toks) { s with toks := s.toks + 1 } → wpAny (model prog w) A t Q E s) : Tr prog w A h t (IsI c) :=
  fun s E _ => hop s E _ ⟨⟨_, rfl⟩, .tok⟩
theorem tr_bool {t : Sem Value} {c : Bool} (hop : ∀ (s : Shared) (E : Value → Shared → Prop) (Q : Value → Shared → Prop), Q (.bool c) s → wpAny (model prog w) A t Q E s) : Tr prog w A h t (IsB c) :=
  fun s E _ => hop s E _ ⟨rfl, .refl s⟩

theorem ev_bin {l r : PySem.Expr} {op : Operator} {Φ Ψ Ξ : Value → Heap → Prop} (hl : Tr prog w A h (eval l env) Φ) (hr : ∀ h', Ext h h' → Tr prog w A h' (eval r env) Ψ)
    (hop : ∀ u v h' h'', Ext h h' → Ext h' h'' → Φ u h' → Ψ v h'' → Tr prog w A h'' (binaryOp op u v) Ξ) : Tr prog w A h (eval (.BinOp l op r pos) env) Ξ := fun _ _ hx =>
  wpAny_BinOp (hl.go hx fun u s1 hu g1 => (hr s1.heap (hx.trans g1.ext)).go (.refl _) fun v s2 hv g2 => (hop u v _ _ (hx.trans g1.ext) g2.ext hu hv).go (.refl _) fun _ _ h3 g3 => ⟨h3, (g1.trans g2).trans g3⟩)
theorem ev_binI {l r : PySem.Expr} {op : Operator} {a b c : Int} (hl : Tr prog w A h (eval l env) (IsI a)) (hr : Tr prog w A h (eval r env) (IsI b))
    (hop : ∀ (t u : Tok) (s : Shared) (E : Value → Shared → Prop) (Q : Value → Shared → Prop), Q (.int c s.toks) { s with toks := s.toks + 1 } → wpAny (model prog w) A (binaryOp op (.int a t) (.int b u)) Q E s) :
    Tr prog w A h (eval (.BinOp l op r pos) env) (IsI c) :=
  ev_bin hl (fun _ hx => hr.up hx) fun u v h' h'' _ _ ⟨t, e⟩ ⟨t', e'⟩ => by subst e; subst e'; exact tr_int (hop t t')
theorem ev_add {l r : PySem.Expr} {a b : Int} (hl : Tr prog w A h (eval l env) (IsI a)) (hr : Tr prog w A h (eval r env) (IsI b)) : Tr prog w A h (eval (.BinOp l .Add r pos) env) (IsI (a + b)) :=
  ev_binI hl hr fun _ _ _ _ _ q => PyProof.Rows.add_int q
theorem ev_sub {l r : PySem.Expr} {a b : Int} (hl : Tr prog w A h (eval l env) (IsI a)) (hr : Tr prog w A h (eval r env) (IsI b)) : Tr prog w A h (eval (.BinOp l .Sub r pos) env) (IsI (a - b)) :=
  ev_binI hl hr fun _ _ _ _ _ q => PyProof.Rows.sub_int q
theorem mulOk {a b : Int} (hb : -(2 ^ 62) ≤ b) (hb' : b ≤ 2 ^ 62) : IntMulOk a b := by
  have := intBits_le_64 (k := b) (by omega) (by omega)
  unfold IntMulOk
  have e : decide (Builtin.Int.intBits b > shortFactorBits) = false := decide_eq_false (by show ¬ (Builtin.Int.intBits b > 64); omega)
  rw [e]; simp
theorem ev_mul {l r : PySem.Expr} {a b : Int} (hl : Tr prog w A h (eval l env) (IsI a)) (hr : Tr prog w A h (eval r env) (IsI b)) (h1 : -(2 ^ 62) ≤ b) (h2 : b ≤ 2 ^ 62) : Tr prog w A h (eval (.BinOp l .Mult r pos) env) (IsI (a * b)) :=
  ev_binI hl hr fun _ _ _ _ _ q => PyProof.Rows.mul_int q (mulOk h1 h2)
theorem ev_mod {l r : PySem.Expr} {a b : Int} (hl : Tr prog w A h (eval l env) (IsI a)) (hr : Tr prog w A h (eval r env) (IsI b)) (hb : b ≠ 0) : Tr prog w A h (eval (.BinOp l .Mod r pos) env) (IsI (a.fmod b)) :=
  ev_binI hl hr fun _ _ _ _ _ q => PyProof.Rows.mod_int hb q
theorem noPylong {a b : Int} (h1 : -(2 ^ 62) ≤ b) (h2 : b ≤ 2 ^ 62) : Builtin.divisionGoesByPylong a b = false := by
  unfold Builtin.divisionGoesByPylong
  have : ¬ ((if b == 0 then 0 else b.natAbs.log2 / 30 + 1) > 300) := by
    split
    · omega
    · have hb : b.natAbs < 2 ^ 63 := by omega
      by_cases h0 : b.natAbs = 0
      · rw [h0]; decide
      · have := (Nat.log2_lt h0).mpr hb
        omega
  simp only [decide_eq_false this, Bool.false_and]
theorem ev_fdiv {l r : PySem.Expr} {a b : Int} (hl : Tr prog w A h (eval l env) (IsI a)) (hr : Tr prog w A h (eval r env) (IsI b)) (hb : b ≠ 0) (h1 : -(2 ^ 62) ≤ b) (h2 : b ≤ 2 ^ 62) : Tr prog w A h (eval (.BinOp l .FloorDiv r pos) env) (IsI (a.fdiv b)) :=
  ev_binI hl hr fun _ _ _ _ _ q => PyProof.Rows.floordiv_int hb q (.inl (noPylong h1 h2))
theorem ev_shr {l r : PySem.Expr} {a b : Int} (hl : Tr prog w A h (eval l env) (IsI a)) (hr : Tr prog w A h (eval r env) (IsI b)) (hb : 0 ≤ b) : Tr prog w A h (eval (.BinOp l .RShift r pos) env) (IsI (a.fdiv (2 ^ b.toNat))) :=
  ev_binI hl hr fun _ _ _ _ _ q => PyProof.Rows.rshift_int hb q
theorem ev_shl {l r : PySem.Expr} {a b : Int} (hl : Tr prog w A h (eval l env) (IsI a)) (hr : Tr prog w A h (eval r env) (IsI b)) (hb : 0 ≤ b) (hb' : b ≤ 1000000) (ha : a.natAbs < 2 ^ 64) : Tr prog w A h (eval (.BinOp l .LShift r pos) env) (IsI (a * 2 ^ b.toNat)) :=
  ev_binI hl hr fun _ _ _ _ _ q => PyProof.Rows.lshift_int_small hb hb' ha q
theorem ev_xor {l r : PySem.Expr} {a b : Int} (hl : Tr prog w A h (eval l env) (IsI a)) (hr : Tr prog w A h (eval r env) (IsI b)) : Tr prog w A h (eval (.BinOp l .BitXor r pos) env) (IsI (Builtin.bitXor a b)) :=
  ev_binI hl hr fun _ _ _ _ _ q => PyProof.Rows.xor_int q
theorem ev_pow2 {l r : PySem.Expr} {b : Int} (hl : Tr prog w A h (eval l env) (IsI 2)) (hr : Tr prog w A h (eval r env) (IsI b)) (hb : 0 ≤ b) (hb' : b ≤ 1000) : Tr prog w A h (eval (.BinOp l .Pow r pos) env) (IsI (2 ^ b.toNat)) :=
  have e2 : Builtin.Int.intBits 2 = 2 := by decide +kernel
  ev_binI hl hr fun _ _ _ _ _ q => PyProof.Rows.pow_int (a := 2) hb (by rw [e2]; omega) q
theorem ev_neg {e : PySem.Expr} {a : Int} (he : Tr prog w A h (eval e env) (IsI a)) : Tr prog w A h (eval (.UnaryOp .USub e pos) env) (IsI (-a)) := fun _ _ hx =>
  wpAny_UnaryOp (he.go hx fun u s1 ⟨t, e⟩ g1 => by subst e; exact PyProof.Rows.neg_int ⟨⟨_, rfl⟩, g1.trans .tok⟩)

/-! tests -/
def Is {α : Type} (a : α) (v : α) (_ : Heap) : Prop := v = a

theorem tt_cmp {l r : PySem.Expr} {op : CmpOp} {whole : Sem Value} {Φ Ψ : Value → Heap → Prop} {c : Bool} (hl : Tr prog w A h (eval l env) Φ) (hr : ∀ h', Ext h h' → Tr prog w A h' (eval r env) Ψ)
    (hop : ∀ u v h' h'', Ext h h' → Ext h' h'' → Φ u h' → Ψ v h'' → Tr prog w A h'' (compareOp op u v) (IsB c)) (hm : behindInMarks op r = false) : Tr prog w A h (isTrue (.Compare l [op] [r] pos) env whole) (Is c) := fun _ _ hx =>
  wpAny_isTrue_Compare1 (hl.go hx fun u s1 hu g1 => (hr s1.heap (hx.trans g1.ext)).go (.refl _) fun v s2 hv g2 => (hop u v _ _ (hx.trans g1.ext) g2.ext hu hv).go (.refl _) fun x _ h3 g3 => by
    have h3 : x = .bool c := h3
    subst h3
    exact wpAny_truthy_bool ⟨rfl, (g1.trans g2).trans g3⟩) hm
theorem ev_cmp {l r : PySem.Expr} {op : CmpOp} {Φ Ψ : Value → Heap → Prop} {c : Bool} (hl : Tr prog w A h (eval l env) Φ) (hr : ∀ h', Ext h h' → Tr prog w A h' (eval r env) Ψ)
    (hop : ∀ u v h' h'', Ext h h' → Ext h' h'' → Φ u h' → Ψ v h'' → Tr prog w A h'' (compareOp op u v) (IsB c)) (hm : behindInMarks op r = false) : Tr prog w A h (eval (.Compare l [op] [r] pos) env) (IsB c) := fun _ _ hx =>
  wpAny_Compare1 (hl.go hx fun u s1 hu g1 => (hr s1.heap (hx.trans g1.ext)).go (.refl _) fun v s2 hv g2 => (hop u v _ _ (hx.trans g1.ext) g2.ext hu hv).go (.refl _) fun _ _ h3 g3 => ⟨h3, (g1.trans g2).trans g3⟩) hm
theorem tt_cmpI {l r : PySem.Expr} {op : CmpOp} {whole : Sem Value} {a b : Int} {c : Bool} (hl : Tr prog w A h (eval l env) (IsI a)) (hr : Tr prog w A h (eval r env) (IsI b))
    (hop : ∀ (t u : Tok) (s : Shared) (E : Value → Shared → Prop) (Q : Value → Shared → Prop), Q (.bool c) s → wpAny (model prog w) A (compareOp op (.int a t) (.int b u)) Q E s) (hm : behindInMarks op r = false) :
    Tr prog w A h (isTrue (.Compare l [op] [r] pos) env whole) (Is c) :=
  tt_cmp hl (fun _ hx => hr.up hx) (fun u v h' h'' _ _ ⟨t, e⟩ ⟨t', e'⟩ => by subst e; subst e'; exact tr_bool (hop t t')) hm
theorem tt_eq {l r : PySem.Expr} {whole : Sem Value} {a b : Int} (hl : Tr prog w A h (eval l env) (IsI a)) (hr : Tr prog w A h (eval r env) (IsI b)) (hm : behindInMarks .Eq r = false := by with_unfolding_all rfl) :
    Tr prog w A h (isTrue (.Compare l [.Eq] [r] pos) env whole) (Is (a == b)) := tt_cmpI hl hr (fun _ _ _ _ _ q => PyProof.Rows.eq_int q) hm
theorem tt_ne {l r : PySem.Expr} {whole : Sem Value} {a b : Int} (hl : Tr prog w A h (eval l env) (IsI a)) (hr : Tr prog w A h (eval r env) (IsI b)) (hm : behindInMarks .NotEq r = false := by with_unfolding_all rfl) :
    Tr prog w A h (isTrue (.Compare l [.NotEq] [r] pos) env whole) (Is (a != b)) := tt_cmpI hl hr (fun _ _ _ _ _ q => PyProof.Rows.ne_int q) hm
theorem tt_lt {l r : PySem.Expr} {whole : Sem Value} {a b : Int} (hl : Tr prog w A h (eval l env) (IsI a)) (hr : Tr prog w A h (eval r env) (IsI b)) (hm : behindInMarks .Lt r = false := by with_unfolding_all rfl) :
    Tr prog w A h (isTrue (.Compare l [.Lt] [r] pos) env whole) (Is (decide (a < b))) := tt_cmpI hl hr (fun _ _ _ _ _ q => PyProof.Rows.lt_int q) hm
theorem tt_gt {l r : PySem.Expr} {whole : Sem Value} {a b : Int} (hl : Tr prog w A h (eval l env) (IsI a)) (hr : Tr prog w A h (eval r env) (IsI b)) (hm : behindInMarks .Gt r = false := by with_unfolding_all rfl) :
    Tr prog w A h (isTrue (.Compare l [.Gt] [r] pos) env whole) (Is (decide (b < a))) := tt_cmpI hl hr (fun _ _ _ _ _ q => PyProof.Rows.gt_int q) hm

theorem tt_or_nil {whole : Sem Value} : Tr prog w A h (isTrue (.BoolOp .Or [] pos) env whole) (Is false) := fun s _ _ => isTrue_or_nil ⟨rfl, .refl s⟩
theorem tt_and_nil {whole : Sem Value} : Tr prog w A h (isTrue (.BoolOp .And [] pos) env whole) (Is true) := fun s _ _ => isTrue_and_nil ⟨rfl, .refl s⟩
theorem tt_or {x : PySem.Expr} {rest : List PySem.Expr} {whole : Sem Value} {b1 b2 : Bool} (hx : Tr prog w A h (isTrue x env (eval x env)) (Is b1)) (hr : b1 = false → Tr prog w A h (isTrue (.BoolOp .Or rest pos) env whole) (Is b2)) :
    Tr prog w A h (isTrue (.BoolOp .Or (x :: rest) pos) env whole) (Is (b1 || b2)) := fun s E he =>
  isTrue_or (hx.go he fun c s1 hc g1 => by
    have hc : c = b1 := hc
    subst hc
    cases c with
    | true => exact ⟨rfl, g1⟩
    | false => exact (hr rfl).go (he.trans g1.ext) fun c' s2 hc' g2 => ⟨by rw [show c' = b2 from hc']; rfl, g1.trans g2⟩)
theorem tt_and {x : PySem.Expr} {rest : List PySem.Expr} {whole : Sem Value} {b1 b2 : Bool} (hx : Tr prog w A h (isTrue x env (eval x env)) (Is b1)) (hr : b1 = true → Tr prog w A h (isTrue (.BoolOp .And rest pos) env whole) (Is b2)) :
    Tr prog w A h (isTrue (.BoolOp .And (x :: rest) pos) env whole) (Is (b1 && b2)) := fun s E he =>
  isTrue_and (hx.go he fun c s1 hc g1 => by
    have hc : c = b1 := hc
    subst hc
    cases c with
    | false => exact ⟨rfl, g1⟩
    | true => exact (hr rfl).go (he.trans g1.ext) fun c' s2 hc' g2 => ⟨by rw [show c' = b2 from hc']; rfl, g1.trans g2⟩)
theorem tt_cast {x : PySem.Expr} {whole : Sem Value} {b b' : Bool} (hx : Tr prog w A h (isTrue x env whole) (Is b)) (e : b = b') : Tr prog w A h (isTrue x env whole) (Is b') := e ▸ hx
theorem ev_cast {x : PySem.Expr} {b b' : Int} (hx : Tr prog w A h (eval x env) (IsI b)) (e : b = b') : Tr prog w A h (eval x env) (IsI b') := e ▸ hx

/-! lists -/
theorem ev_nil {α : Type} {R : α → Value → Heap → Prop} : Tr prog w A h (eval (.List [] pos) env) (IsL R []) := fun _ _ _ =>
  wpAny_List_spliced (args_nil ⟨by decide, ⟨_, [], rfl, ⟨_, Heap.get?_push_size _ rfl⟩, .nil⟩, .mk' (.push _ _)⟩)
theorem ev_list1 {α : Type} {R : α → Value → Heap → Prop} (hR : Mono R) {e : PySem.Expr} {x : α} (he : Tr prog w A h (eval e env) (R x)) (hs : starEach [e] env = [(false, eval e env)]) : Tr prog w A h (eval (.List [e] pos) env) (IsL R [x]) := fun _ _ hx =>
  wpAny_List_spliced (args_cons (he.go hx fun v _ hv g1 => args_nil ⟨by simp [sizeLine], ⟨_, [v], rfl, ⟨_, Heap.get?_push_size _ rfl⟩, .cons (hR _ _ _ _ (.push _ _) hv) .nil⟩, g1.trans (.mk' (.push _ _))⟩) hs)

theorem ev_item {α : Type} {R : α → Value → Heap → Prop} (hR : Mono R) {value slice : PySem.Expr} {xs : List α} {k : Int} {x : α} (hl : Tr prog w A h (eval value env) (IsL R xs)) (hi : Tr prog w A h (eval slice env) (IsI k))
    (h0 : 0 ≤ k) (hk : k < 2 ^ 62) (hx : xs[k.toNat]? = some x)
    (hs : ∀ l u, subscripted slice false (.ref l) (.int k u) = operate [.ref l, .int k u] (getItem (.ref l) (.int k u)) := by intro _ _; with_unfolding_all rfl) :
    Tr prog w A h (eval (.Subscript value slice pos) env) (R x) := fun s E he =>
  Subscript_ (hl.go he fun v s1 ⟨l, vs, e, p, q⟩ g1 => (hi.up (he.trans g1.ext)).go (.refl _) fun i s2 ⟨t, e'⟩ g2 => by
    subst e; subst e'
    obtain ⟨v, hv, hr⟩ := q.get hx
    exact tail_any (g2.ext.plain p).isList.typeIs slot_list_getitem.lookup (wpAny_getItem_list (g2.ext.plain p).isList h0 (by omega) (by simpa using hv) ⟨hR _ _ _ _ g2.ext hr, g1.trans g2⟩) (hs _ _))
theorem ev_itemNeg {α : Type} {R : α → Value → Heap → Prop} (hR : Mono R) {value slice : PySem.Expr} {xs : List α} {x : α} (hl : Tr prog w A h (eval value env) (IsL R xs)) (hi : Tr prog w A h (eval slice env) (IsI (-1)))
    (hx : xs[xs.length - 1]? = some x) (hsz : xs.length < 2 ^ 62)
    (hs : ∀ l u, subscripted slice false (.ref l) (.int (-1) u) = operate [.ref l, .int (-1) u] (getItem (.ref l) (.int (-1) u)) := by intro _ _; with_unfolding_all rfl) :
    Tr prog w A h (eval (.Subscript value slice pos) env) (R x) := fun s E he =>
  Subscript_ (hl.go he fun v s1 ⟨l, vs, e, p, q⟩ g1 => (hi.up (he.trans g1.ext)).go (.refl _) fun i s2 ⟨t, e'⟩ g2 => by
    subst e; subst e'
    obtain ⟨v, hv, hr⟩ := q.get hx
    have hlen := q.length
    have hpos : 0 < xs.length := by
      cases xs with
      | nil => simp at hx
      | cons => simp
    refine tail_any (g2.ext.plain p).isList.typeIs slot_list_getitem.lookup (wpAny_getItem_list_neg (x := v) (g2.ext.plain p).isList (by decide) (by simp; omega) (by decide) ?_ ⟨hR _ _ _ _ g2.ext hr, g1.trans g2⟩) (hs _ _)
    have : ((-1 : Int) + (vs.toArray.size : Nat)).toNat = xs.length - 1 := by simp; omega
    rw [this]; simpa using hv)

theorem ev_addL {α : Type} {R : α → Value → Heap → Prop} (hR : Mono R) {l r : PySem.Expr} {xs ys : List α} (hl : Tr prog w A h (eval l env) (IsL R xs)) (hr : Tr prog w A h (eval r env) (IsL R ys)) (hsz : xs.length + ys.length ≤ 1000000) :
    Tr prog w A h (eval (.BinOp l .Add r pos) env) (IsL R (xs ++ ys)) :=
  ev_bin hl (fun _ hx => hr.up hx) fun u v h' h'' _ hx ⟨l, vs, e, p, q⟩ ⟨l', vs', e', p', q'⟩ => by
    subst e; subst e'
    intro s E hy
    obtain ⟨n, hn⟩ := (hx.trans hy).plain p
    obtain ⟨n', hn'⟩ := hy.plain p'
    have e1 := q.length
    have e2 := q'.length
    refine PySem.P.add_list hn hn' ⟨⟨_, vs ++ vs', rfl, ⟨0, ?_⟩, ?_⟩, .mk' (.push _ _)⟩ (by simp [sizeLine]; omega)
    · have := Heap.get?_push_size s.heap (o := { cls := .type "list", data := .seq (vs.toArray ++ vs'.toArray) }) rfl
      simpa using this
    · exact (q.up hR ((hx.trans hy).trans (.push _ _))).append (q'.up hR (hy.trans (.push _ _)))

theorem ev_mulL {α : Type} {R : α → Value → Heap → Prop} (hR : Mono R) {l r : PySem.Expr} {x : α} {k : Int} (hl : Tr prog w A h (eval l env) (IsL R [x])) (hr : Tr prog w A h (eval r env) (IsI k)) (h0 : 0 ≤ k) (hk : k ≤ 1000000) :
    Tr prog w A h (eval (.BinOp l .Mult r pos) env) (IsL R (List.replicate k.toNat x)) :=
  ev_bin hl (fun _ hx => hr.up hx) fun u v h' h'' _ hx ⟨l, vs, e, p, q⟩ ⟨t, e'⟩ => by
    subst e; subst e'
    intro s E hy
    obtain ⟨n, hn⟩ := (hx.trans hy).plain p
    cases q with
    | @cons _ v _ _ hv q' =>
    cases q'
    have hd : ({ cls := .type "list", data := .seq (List.foldl (fun x1 x2 => x1 ++ x2) #[] (List.replicate (if (#[v] : Array Value).isEmpty = true then 0 else k.toNat) #[v])) } : Obj) = { cls := .type "list", data := .seq (List.replicate k.toNat v).toArray } := by
      have : List.foldl (fun x1 x2 => x1 ++ x2) #[] (List.replicate (if (#[v] : Array Value).isEmpty = true then 0 else k.toNat) #[v]) = (List.replicate k.toNat v).toArray := by
        rw [listMul_foldl_if]
        simp
      rw [this]
    refine wpAny_binaryOp_repeat_ref (T := "list") (U := "int") (by decide) ⟨_, hn, rfl⟩ (fun s' => typeIs_int s' k t) noFill_list_mul F.fills_int_mul F.slot_int_rmul repeat_list F.slot_int_index.lookup
      (call_meets F.slot_int_rmul (typeIs_int s k t) F.entry_int_rmul (F.args_int_rmul_2 _ _) (int___rmul___int_list k t _ _ _)
        ⟨hn, rfl, ⟨_, hn, rfl⟩, call_meets F.slot_list_mul ⟨_, hn, rfl⟩ F.entry_list_mul (F.args_list_mul_2 _ _)
          (AutoListH.list___mul___list_int_3 _ _ _ k t (by simp [Builtin.List.listFitsIndex]; omega) (by simp; omega) (by simp [Builtin.List.listTooLong, sizeLine]; omega))
          ⟨hn, ?_⟩⟩)
    refine ⟨⟨_, List.replicate k.toNat v, rfl, ⟨0, ?_⟩, ?_⟩, .mk' (.push _ _)⟩
    · exact (Heap.get?_push_size _ rfl).trans (congrArg some hd)
    · refine All2.up hR (Ext.push _ _) (All2.up hR (hx.trans hy) ?_)
      generalize k.toNat = m
      induction m with
      | zero => exact .nil
      | succ m ih => exact .cons hv ih

theorem ev_upto {α : Type} {R : α → Value → Heap → Prop} (hR : Mono R) {value up : PySem.Expr} {p : Pos} {xs : List α} {k : Int} (hl : Tr prog w A h (eval value env) (IsL R xs)) (hi : Tr prog w A h (eval up env) (IsI k)) (h0 : 0 ≤ k) (hsz : xs.length ≤ 1000000)
    (hs : ∀ l u, subscripted (.Slice none (some up) none p) false (.ref l) (.ref u) = operate [.ref u, .ref l] (getItem (.ref l) (.ref u)) := by intro _ _; with_unfolding_all rfl) :
    Tr prog w A h (eval (.Subscript value (.Slice none (some up) none p) pos) env) (IsL R (xs.take k.toNat)) := fun s E he =>
  Subscript_ (hl.go he fun v s1 ⟨l, vs, e, pl, q⟩ g1 => wpAny_Slice (wpAny_evalPart_none (wpAny_evalPart_some ((hi.up (he.trans g1.ext)).go (.refl _) fun i s2 ⟨t, e'⟩ g2 => wpAny_evalPart_none (by
    subst e; subst e'
    have e1 := q.length
    have hl2 := (g2.ext.trans (Ext.push s2.heap { cls := .type "slice", data := .fields #[.none, .int k t, .none] })).plain pl
    refine tail_any (s := { s2 with heap := s2.heap.push { cls := .type "slice", data := .fields #[.none, .int k t, .none] } }) hl2.isList.typeIs slot_list_getitem.lookup
      (wpAny_getItem_list_slice hl2.isList (Heap.IsSliceOf.new _ _ _ _) .none (.int k t) .none (by decide) ?_ (by simp [sizeLine]; omega)) (hs _ _)
    have hk : slicePick vs.toArray none (some k) none = (vs.take k.toNat).toArray := by
      have := slicePick_upto' vs.toArray k.toNat
      rw [Int.toNat_of_nonneg h0] at this
      simpa using this
    rw [hk]
    exact ⟨⟨_, vs.take k.toNat, rfl, ⟨0, by have := Heap.get?_push_size (s2.heap.push { cls := .type "slice", data := .fields #[.none, .int k t, .none] }) (o := { cls := .type "list", data := .seq (vs.take k.toNat).toArray }) rfl; simpa using this⟩,
      (q.take _).up hR (g2.ext.trans ((Ext.push _ _).trans (.push _ _)))⟩, (g1.trans g2).trans (.mk' ((Ext.push _ _).trans (.push _ _)))⟩)))))
theorem ev_butLast {α : Type} {R : α → Value → Heap → Prop} (hR : Mono R) {value up : PySem.Expr} {p : Pos} {xs : List α} (hl : Tr prog w A h (eval value env) (IsL R xs)) (hi : Tr prog w A h (eval up env) (IsI (-1))) (hsz : xs.length ≤ 1000000)
    (hs : ∀ l u, subscripted (.Slice none (some up) none p) false (.ref l) (.ref u) = operate [.ref u, .ref l] (getItem (.ref l) (.ref u)) := by intro _ _; with_unfolding_all rfl) :
    Tr prog w A h (eval (.Subscript value (.Slice none (some up) none p) pos) env) (IsL R (xs.take (xs.length - 1))) := fun s E he =>
  Subscript_ (hl.go he fun v s1 ⟨l, vs, e, pl, q⟩ g1 => wpAny_Slice (wpAny_evalPart_none (wpAny_evalPart_some ((hi.up (he.trans g1.ext)).go (.refl _) fun i s2 ⟨t, e'⟩ g2 => wpAny_evalPart_none (by
    subst e; subst e'
    have e1 := q.length
    have hl2 := (g2.ext.trans (Ext.push s2.heap { cls := .type "slice", data := .fields #[.none, .int (-1) t, .none] })).plain pl
    refine tail_any (s := { s2 with heap := s2.heap.push { cls := .type "slice", data := .fields #[.none, .int (-1) t, .none] } }) hl2.isList.typeIs slot_list_getitem.lookup
      (wpAny_getItem_list_slice hl2.isList (Heap.IsSliceOf.new _ _ _ _) .none (.int (-1) t) .none (by decide) ?_ (by simp [sizeLine]; omega)) (hs _ _)
    have hk : slicePick vs.toArray none (some (-1)) none = (vs.take (xs.length - 1)).toArray := by
      have := slicePick_butLast vs.toArray 1 (by decide)
      rw [← e1]
      simpa using this
    rw [hk]
    exact ⟨⟨_, vs.take (xs.length - 1), rfl, ⟨0, by have := Heap.get?_push_size (s2.heap.push { cls := .type "slice", data := .fields #[.none, .int (-1) t, .none] }) (o := { cls := .type "list", data := .seq (vs.take (xs.length - 1)).toArray }) rfl; simpa using this⟩,
      (q.take _).up hR (g2.ext.trans ((Ext.push _ _).trans (.push _ _)))⟩, (g1.trans g2).trans (.mk' ((Ext.push _ _).trans (.push _ _)))⟩)))))
theorem ev_rev {α : Type} {R : α → Value → Heap → Prop} (hR : Mono R) {value st : PySem.Expr} {p : Pos} {xs : List α} (hl : Tr prog w A h (eval value env) (IsL R xs)) (hi : Tr prog w A h (eval st env) (IsI (-1))) (hsz : xs.length ≤ 1000000)
    (hs : ∀ l u, subscripted (.Slice none none (some st) p) false (.ref l) (.ref u) = operate [.ref l, .ref u] (getItem (.ref l) (.ref u)) := by intro _ _; with_unfolding_all rfl) :
    Tr prog w A h (eval (.Subscript value (.Slice none none (some st) p) pos) env) (IsL R xs.reverse) := fun s E he =>
  Subscript_ (hl.go he fun v s1 ⟨l, vs, e, pl, q⟩ g1 => wpAny_Slice (wpAny_evalPart_none (wpAny_evalPart_none (wpAny_evalPart_some ((hi.up (he.trans g1.ext)).go (.refl _) fun i s2 ⟨t, e'⟩ g2 => by
    subst e; subst e'
    have e1 := q.length
    have hl2 := (g2.ext.trans (Ext.push s2.heap { cls := .type "slice", data := .fields #[.none, .none, .int (-1) t] })).plain pl
    refine tail_any (s := { s2 with heap := s2.heap.push { cls := .type "slice", data := .fields #[.none, .none, .int (-1) t] } }) hl2.isList.typeIs slot_list_getitem.lookup
      (wpAny_getItem_list_slice hl2.isList (Heap.IsSliceOf.new _ _ _ _) .none .none (.int (-1) t) (by decide) ?_ (by simp [sizeLine]; omega)) (hs _ _)
    rw [krv_pick]
    exact ⟨⟨_, vs.reverse, rfl, ⟨0, by have := Heap.get?_push_size (s2.heap.push { cls := .type "slice", data := .fields #[.none, .none, .int (-1) t] }) (o := { cls := .type "list", data := .seq vs.reverse.toArray }) rfl; simpa using this⟩,
      q.reverse.up hR (g2.ext.trans ((Ext.push _ _).trans (.push _ _)))⟩, (g1.trans g2).trans (.mk' ((Ext.push _ _).trans (.push _ _)))⟩)))))
end


theorem TabP.step {h h' : Heap} {c P : Addr} {l k : Int} {q : Str} {V : List Addr} (x : TabP h c P l k q) (hc : c ∉ V) (hP : P ∉ V) (hV : ∀ b ∈ V, ∀ q, ¬ h.CodeRec (.ref b) q)
    (hk : ∀ b o, b ∉ V → h.get? b = some o → h'.get? b = some o) : TabP h' c P l k q := by
  obtain ⟨hcd, hs, ps, hp, hr⟩ := x
  obtain ⟨o, vs, file, tf, flags, tg, inF, text, tt, g, r⟩ := hcd
  refine ⟨⟨o, vs, file, tf, flags, tg, inF, text, tt, hk _ _ hc g, r⟩, ?_, ps, hk _ _ hP hp, ?_⟩
  · intro o' e
    rw [hk _ _ hc g] at e
    cases e
    exact hs _ g
  · rcases hr with e | ⟨c', e, h1, h2, hr⟩
    · exact .inl e
    · refine .inr ⟨c', e, h1, h2, ?_⟩
      obtain ⟨c₂, o₂, vs₂, t₂, e₂, g₂, r₂⟩ := id hr
      cases e₂
      exact ⟨_, o₂, vs₂, t₂, rfl, hk _ _ (fun hm => hV _ hm _ hr) g₂, r₂⟩
theorem TabS.ne {h : Heap} (t : TabS h) {b : Addr} (e : h.get? b = none) : b ≠ 30 ∧ b ≠ 37 ∧ b ≠ 34 ∧ b ≠ 41 := by
  obtain ⟨⟨⟨o, vs, file, tf, flags, tg, inF, text, tt, g, r⟩, _, ps, hp, _⟩, ⟨⟨o', vs', file', tf', flags', tg', inF', text', tt', g', r'⟩, _, ps', hp', _⟩⟩ := t
  refine ⟨?_, ?_, ?_, ?_⟩ <;> (intro q; subst q; simp_all)
theorem Ext.step {hb H H' : Heap} {V : List Addr} (E : Ext hb H) (hf : ∀ b ∈ V, hb.get? b = none) (hV : ∀ b ∈ V, ∀ q, ¬ H.CodeRec (.ref b) q) (hk : ∀ b o, b ∉ V → H.get? b = some o → H'.get? b = some o) : Ext hb H' := by
  refine ⟨fun b o q e => hk b o (fun hm => by rw [hf b hm] at e; cases e) (E.keep b o q e), fun t => ?_⟩
  have t' := E.tab t
  have ne : ∀ b ∈ V, b ≠ 30 ∧ b ≠ 37 ∧ b ≠ 34 ∧ b ≠ 41 := fun b hb => t.ne (hf b hb)
  exact ⟨t'.1.step (fun m => (ne _ m).2.2.1 rfl) (fun m => (ne _ m).1 rfl) hV hk, t'.2.step (fun m => (ne _ m).2.2.2 rfl) (fun m => (ne _ m).2.1 rfl) hV hk⟩
theorem noRec_dict {h : Heap} {b : Addr} {o : Obj} {es n} (e : h.get? b = some o) (hd : o.data = .dict es n) (q : Str) : ¬ h.CodeRec (.ref b) q := by
  rintro ⟨c, o', vs, t, e', g, hd', _⟩
  cases e'
  rw [e] at g; cases g
  rw [hd] at hd'; cases hd'
theorem noRec_cell {h : Heap} {b : Addr} {v : Option Value} (x : h.IsCell b v) (q : Str) : ¬ h.CodeRec (.ref b) q := by
  obtain ⟨o, e, hd⟩ := x
  rintro ⟨c, o', vs, t, e', g, hd', _⟩
  cases e'
  rw [e] at g; cases g
  rw [hd] at hd'; cases hd'
theorem noRec_ns {h : Heap} {b : Addr} {m : Str → Option Value} (x : h.Ns b m) (q : Str) : ¬ h.CodeRec (.ref b) q := by
  obtain ⟨o, es, ep, e, hd, _⟩ := x
  exact noRec_dict e hd q
theorem noRec_plain {h : Heap} {b : Addr} {xs : Array Value} (x : h.PlainList b xs) (q : Str) : ¬ h.CodeRec (.ref b) q := by
  obtain ⟨n, e⟩ := x
  rintro ⟨c, o', vs, t, e', g, hd', _⟩
  cases e'
  rw [e] at g; cases g
  cases hd'

structure SrcOk (prog : Program) (w : World) (A : Around) (I : Addr) (fp wr : List Addr) (n : Nat) (P : Nat → Value → Prop) (St : Nat → Heap → Prop) : Prop where
  W : Walks prog w A I fp wr n P St
  solid : ∀ i h, St i h → ∀ b ∈ fp, ∃ o, h.get? b = some o ∧ Solid o
  norec : ∀ i h, St i h → ∀ b ∈ wr, ∀ q, ¬ h.CodeRec (.ref b) q
  fields : ∀ i h, St i h → ∀ b ∈ wr, ∃ o vs, h.get? b = some o ∧ o.data = .fields vs

theorem SrcOk.list {prog : Program} {w : World} {A : Around} (hh : A.handled = none) (I ax : Addr) (hne : ax ≠ I) (items : Array Value) :
    SrcOk prog w A I [I, ax] [I] items.size (fun i v => items[i]? = some v) (fun i h => h.IsListIter I ax i ∧ h.IsList ax items) where
  W := Walks.list hh I ax hne items
  solid := fun i h ⟨⟨o, e, hc, _⟩, ⟨o', e', hc', _⟩⟩ b hb => by
    simp at hb
    rcases hb with rfl | rfl
    · exact ⟨o, e, solid_cls (by rw [hc]; simp)⟩
    · exact ⟨o', e', solid_cls (by rw [hc']; simp)⟩
  norec := fun i h ⟨⟨o, e, hc, hd⟩, _⟩ b hb q => by
    simp at hb; subst hb
    rintro ⟨c, o', vs, t, e', g, hd', hv⟩
    cases e'
    rw [e] at g; cases g
    rw [hd] at hd'; cases hd'
    simp at hv
  fields := fun i h ⟨⟨o, e, hc, hd⟩, _⟩ b hb => by
    simp at hb; subst hb
    exact ⟨o, _, e, hd⟩
theorem SrcOk.range {prog : Program} {w : World} {A : Around} (hh : A.handled = none) (I : Addr) (a : Int) (n : Nat) :
    SrcOk prog w A I [I] [I] n (fun i v => i < n ∧ ∃ t, v = Value.int (a + ↑i * 1) t) (fun i h => IsRangeIter h I (a + ↑i * 1) (↑n - ↑i) 1) where
  W := (Walks.range hh I a 1 n).bound
  solid := fun i h e b hb => by
    simp at hb; subst hb
    exact ⟨_, e, solid_cls (by simp)⟩
  norec := fun i h e b hb q => by
    simp at hb; subst hb
    rintro ⟨c, o', vs, t, e', g, hd', hv⟩
    cases e'
    have e2 : h.get? b = some _ := e
    rw [e2] at g; cases g
    cases hd'
    simp [rawInt] at hv
  fields := fun i h e b hb => by
    simp at hb; subst hb
    exact ⟨_, _, e, rfl⟩

def Loc {α : Type} (S : α → Value → Heap → Prop) : Prop := ∀ x v h h', S x v h → (∀ l, v = .ref l → ∀ o, h.get? l = some o → h'.get? l = some o) → S x v h'
theorem loc_I : Loc IsI := fun _ _ _ _ x _ => x
theorem loc_LI : Loc (IsL IsI) := fun x v h h' ⟨l, vs, e, ⟨n, p⟩, q⟩ hk => ⟨l, vs, e, ⟨n, hk l e _ p⟩, All2.imp (h := h) (h' := h') (R := IsI) (R' := IsI) (fun _ _ y => y) q⟩
theorem All2.loc {α : Type} {S : α → Value → Heap → Prop} (hS : Loc S) {h h' : Heap} {xs : List α} {vs : List Value} (x : All2 S h xs vs) (hk : ∀ l, .ref l ∈ vs → ∀ o, h.get? l = some o → h'.get? l = some o) : All2 S h' xs vs := by
  induction x with
  | nil => exact .nil
  | cons a _ ih => exact .cons (hS _ _ _ _ a fun l e o => hk l (by rw [e]; exact .head _) o) (ih fun l hl => hk l (.tail _ hl))

abbrev testsOf (ifs : List PySem.Expr) (cenv : Env) : Sem Bool := forIn ifs true fun c r => if r = true then do let ok ← isTrue c cenv (eval c cenv); pure (ForInStep.yield ok) else pure (ForInStep.yield r)

section
variable {prog : Program} {w : World} {A : Around}

theorem tests_nil {h : Heap} {cenv : Env} : Tr prog w A h (testsOf [] cenv) (Is true) := fun s _ _ => wpAny_tests_nil ⟨rfl, .refl s⟩
theorem tests_one {h : Heap} {cenv : Env} {c : PySem.Expr} {b : Bool} (hc : Tr prog w A h (isTrue c cenv (eval c cenv)) (Is b)) : Tr prog w A h (testsOf [c] cenv) (Is b) := fun s E hx => wpAny_tests_one (hc s E hx)

theorem loop_core {α β : Type} {elt iter target : PySem.Expr} {ifs : List PySem.Expr} {scope : Scope} {pos : Pos} {I D : Addr} {fp wr VF : List Addr} {P : Nat → Value → Prop} {St : Nat → Heap → Prop} {cenv : Env} {hb : Heap}
    {J : Heap → Prop} {Jv : Value → Heap → Prop} {R : α → Value → Heap → Prop} {S : β → Value → Heap → Prop} {xs : List α} {p : α → Bool} {f : α → β} {RES : Result → Shared → Prop} {s : Shared}
    (K : SrcOk prog w A I fp wr xs.length P St) (hsz : xs.length ≤ sizeLine) (hP : ∀ i v, P i v → ∃ a, xs[i]? = some a ∧ ∀ h', Ext hb h' → R a v h') (hSm : Mono S) (hSl : Loc S)
    (hwr : ∀ b ∈ wr, hb.get? b = none) (hVF : ∀ b ∈ VF, hb.get? b = none ∧ b ∉ fp) (hD : hb.get? D = none ∧ D ∉ fp ∧ D ∉ VF)
    (hJk : ∀ h h', J h → (∀ b ∈ VF, ∀ o, h.get? b = some o → h'.get? b = some o) → J h')
    (hJx : ∀ h, J h → ∀ b ∈ VF, ∃ o, h.get? b = some o ∧ Solid o ∧ ∀ q, ¬ h.CodeRec (.ref b) q)
    (hJv : ∀ v h h', Jv v h → Ext h h' → Jv v h')
    (hst : ∀ v (s : Shared) Q E, J s.heap → (∀ h' tk, J h' → Jv v h' → (∀ b o, b ∉ VF → s.heap.get? b = some o → h'.get? b = some o) → Q () { s with heap := h', toks := tk }) → wpAny (model prog w) A (assign target cenv v) Q E s)
    (htest : ∀ a v H, a ∈ xs → Ext hb H → R a v H → J H → Jv v H → Tr prog w A H (testsOf ifs cenv) (Is (p a)))
    (helt : ∀ a v (s : Shared) E, a ∈ xs → p a = true → Ext hb s.heap → R a v s.heap → J s.heap → Jv v s.heap →
      wpAny (model prog w) A (eval elt cenv) (fun y s' => (S (f a) y s'.heap ∧ ∀ l, y = .ref l → (∃ o, Solid o ∧ hb.get? l = some o) ∨ s.heap.get? l = none) ∧ Go s s') E s)
    (h0 : St 0 s.heap) (j0 : J s.heap) (d0 : s.heap.PlainList D #[]) (e0 : Ext hb s.heap)
    (hR : ∀ h' tk ys, J h' → h'.PlainList D ys → All2 S h' ((xs.filter p).map f) ys.toList → (∀ l, .ref l ∈ ys.toList → l ∉ VF ∧ l ∉ wr ∧ l ≠ D) → Ext hb h' → RES (.ok .next) { s with heap := h', toks := tk })
    (hgo : ∀ v, letOwnedTupleGo target (.ref I) v = pure () := by intro _; rfl) :
    codeAny (model prog w) A (.compLoop (.ListComp elt [⟨target, iter, ifs, 0⟩] scope pos) 0 (.ref I) (.ref D) cenv) RES s := by
  have hJe : ∀ h h', J h → Ext h h' → J h' := fun h h' j e => hJk h h' j fun b hb' o g => by
    obtain ⟨o', g', so, _⟩ := hJx h j b hb'
    rw [g] at g'; cases g'
    exact e.solid so g
  have hSe : ∀ i h h', St i h → Ext h h' → St i h' := fun i h h' st e => K.W.frame i h h' st fun b hb' o g => by
    obtain ⟨o', g', so⟩ := K.solid i h st b hb'
    rw [g] at g'; cases g'
    exact e.solid so g
  have hwfp : ∀ b ∈ wr, b ∈ fp := K.W.sub
  refine codeAny_compLoop_tests
    (fun k s' => ∃ h' tk ys i, s' = { s with heap := h', toks := tk } ∧ St i h' ∧ J h' ∧ h'.PlainList D ys ∧ Ext hb h' ∧ All2 S h' (((xs.take i).filter p).map f) ys.toList ∧ (∀ l, .ref l ∈ ys.toList → l ∉ VF ∧ l ∉ wr ∧ l ≠ D) ∧ i ≤ xs.length ∧ k = xs.length + 1 - i)
    ?_ (xs.length + 1) ⟨s.heap, s.toks, #[], 0, rfl, h0, j0, d0, e0, by simpa using All2.nil, by simp, Nat.zero_le _, rfl⟩ hgo
  rintro k s' ⟨H, tk, ys, i, rfl, st, j, d, e, all, nv, hi, rfl⟩
  by_cases hlt : i < xs.length
  · refine K.W.item i _ _ _ hlt st fun v h₁ tk₁ hPv st₁ k₁ => ?_
    obtain ⟨a, ha, hRa⟩ := hP i v hPv
    have hmem : a ∈ xs := List.mem_of_getElem? ha
    have e₁ : Ext hb h₁ := e.step hwr (fun b hb' q => K.norec i H st b hb' q) k₁
    have j₁ : J h₁ := hJk _ _ j fun b hb' o g => k₁ b o (fun hm => (hVF b hb').2 (hwfp b hm)) g
    have d₁ : h₁.PlainList D ys := d.at fun o g => k₁ D o (fun hm => hD.2.1 (hwfp D hm)) g
    have all₁ : All2 S h₁ (((xs.take i).filter p).map f) ys.toList := all.loc hSl fun l hl o g => k₁ l o (nv l hl).2.1 g
    refine hst v _ _ _ j₁ fun h₂ tk₂ j₂ jv₂ k₂ => ?_
    have e₂ : Ext hb h₂ := e₁.step (fun b hb' => (hVF b hb').1) (fun b hb' => (hJx _ j₁ b hb').elim fun o g => g.2.2) k₂
    have d₂ : h₂.PlainList D ys := d₁.at fun o g => k₂ D o hD.2.2 g
    have st₂ : St (i + 1) h₂ := K.W.frame _ _ _ st₁ fun b hb' o g => k₂ b o (fun hm => (hVF b hm).2 hb') g
    have all₂ : All2 S h₂ (((xs.take i).filter p).map f) ys.toList := all₁.loc hSl fun l hl o g => k₂ l o (nv l hl).1 g
    refine (htest a v h₂ hmem e₂ (hRa _ e₂) j₂ jv₂).go (.refl _) fun ok s₃ hok g₃ => ?_
    have hok : ok = p a := hok
    obtain ⟨h₃, tk₃, rfl, x₃⟩ := g₃
    have x₃ : Ext h₂ h₃ := x₃
    have take_succ : (xs.take (i + 1)) = xs.take i ++ [a] := by rw [List.take_add_one, ha]; rfl
    cases hpa : p a with
    | false =>
      rw [hok, hpa]
      simp only [Bool.false_eq_true, if_false]
      refine ⟨xs.length + 1 - (i + 1), by omega, h₃, tk₃, ys, i + 1, rfl, hSe _ _ _ st₂ x₃, hJe _ _ j₂ x₃, x₃.plain d₂, e₂.trans x₃, ?_, nv, hlt, rfl⟩
      rw [take_succ, List.filter_append]
      simpa [hpa] using all₂.up hSm x₃
    | true =>
      rw [hok, hpa]
      simp only [if_true]
      refine wpAny_mono (helt a v { s with heap := h₃, toks := tk₃ } _ hmem hpa (e₂.trans x₃) (hRa _ (e₂.trans x₃)) (hJe _ _ j₂ x₃) (hJv _ _ _ jv₂ x₃)) (fun y s₄ h₄ => ?_) fun _ _ x => x
      obtain ⟨⟨hSy, hyl⟩, h₄, tk₄, rfl, x₄⟩ := h₄
      have x₄ : Ext h₃ h₄ := x₄
      have hSy : S (f a) y h₄ := hSy
      have d₄ : h₄.PlainList D ys := (x₃.trans x₄).plain d₂
      have all₄ := all₂.up hSm (x₃.trans x₄)
      have j₃ := hJe _ _ j₂ x₃
      have st₃ := hSe _ _ _ st₂ x₃
      have hy : ∀ l, y = .ref l → l ∉ VF ∧ l ∉ wr ∧ l ≠ D := fun l el => by
        rcases hyl l el with ⟨o, so, ho⟩ | hn
        · exact ⟨fun hm => (by rw [(hVF l hm).1] at ho; cases ho), fun hm => (by rw [hwr l hm] at ho; cases ho), fun hm => (by rw [hm, hD.1] at ho; cases ho)⟩
        · have hn : h₃.get? l = none := hn
          refine ⟨fun hm => ?_, fun hm => ?_, fun hm => ?_⟩
          · obtain ⟨o, g, _⟩ := hJx _ j₃ l hm
            rw [hn] at g; cases g
          · obtain ⟨o, g, _⟩ := K.solid _ _ st₃ l (hwfp l hm)
            rw [hn] at g; cases g
          · obtain ⟨n, g⟩ := x₃.plain d₂
            rw [hm, g] at hn; cases hn
      have hys : ys.size ≤ sizeLine := by
        have e1 := all.length
        have e2 : (xs.take i).length ≤ xs.length := by rw [List.length_take]; omega
        have e3 : ((xs.take i).filter p).length ≤ (xs.take i).length := List.length_filter_le _ _
        simp only [List.length_map, Array.length_toList] at e1
        omega
      refine wpAny_list_append_plain (hsz := hys) d₄ fun h₅ d₅ s₅ => ?_
      have k₅ : ∀ b o, b ∉ [D] → h₄.get? b = some o → h₅.get? b = some o := fun b o hb' g => s₅.extBut b o (by simpa using hb') g
      refine ⟨xs.length + 1 - (i + 1), by omega, h₅, tk₄, ys.push y, i + 1, rfl, ?_, ?_, d₅, ?_, ?_, ?_, hlt, rfl⟩
      · exact K.W.frame _ _ _ (hSe _ _ _ st₃ x₄) fun b hb' o g => k₅ b o (by simp; rintro rfl; exact hD.2.1 hb') g
      · exact hJk _ _ (hJe _ _ j₃ x₄) fun b hb' o g => k₅ b o (by simp; rintro rfl; exact hD.2.2 hb') g
      · exact (e₂.trans (x₃.trans x₄)).step (V := [D]) (fun b hb' => by simp at hb'; subst hb'; exact hD.1) (fun b hb' q => by simp at hb'; subst hb'; exact noRec_plain d₄ q) k₅
      · rw [take_succ, List.filter_append, List.map_append]
        have := all₄.append (.cons hSy .nil)
        have := this.loc hSl (h' := h₅) fun l hl o g => k₅ l o (by
          simp only [List.mem_append, List.mem_singleton] at hl
          simp only [List.mem_singleton]
          rcases hl with hl | hl
          · exact (nv l hl).2.2
          · exact (hy l hl.symm).2.2) g
        simpa [hpa] using this
      · intro l hl
        simp only [Array.toList_push, List.mem_append, List.mem_singleton] at hl
        rcases hl with hl | hl
        · exact nv l hl
        · exact hy l hl.symm
  · have hin : i = xs.length := by omega
    subst hin
    refine K.W.done _ _ _ st fun h₁ tk₁ k₁ => ?_
    rw [List.take_length] at all
    exact hR h₁ tk₁ ys (hJk _ _ j fun b hb' o g => k₁ b o (fun hm => (hVF b hb').2 (hwfp b hm)) g) (d.at fun o g => k₁ D o (fun hm => hD.2.1 (hwfp D hm)) g)
      (all.loc hSl fun l hl o g => k₁ l o (nv l hl).2.1 g) nv (e.step hwr (fun b hb' q => K.norec _ H st b hb' q) k₁)
end


def IsSrc {α : Type} (prog : Program) (w : World) (A : Around) (R : α → Value → Heap → Prop) (xs : List α) (v : Value) (h : Heap) : Prop :=
  ∀ (s : Shared) (Q : Value → Shared → Prop) (E : Value → Shared → Prop), Ext h s.heap →
    (∀ I fp wr P St h' tk, (∀ b o, s.heap.get? b = some o → h'.get? b = some o) → SrcOk prog w A I fp wr xs.length P St → (∀ i v, P i v → ∃ a, xs[i]? = some a ∧ ∀ h'', Ext s.heap h'' → R a v h'') →
      St 0 h' → (∀ b ∈ wr, s.heap.get? b = none) → (∀ b ∈ fp, b < h'.objs.size) → (∀ b ∈ fp, b ∈ wr ∨ (v = .ref b ∧ ∃ o xs n, s.heap.get? b = some o ∧ o.data = .seq xs n)) → Q (.ref I) { s with heap := h', toks := tk }) → wpAny (model prog w) A (pyIter v) Q E s

def upFrom (a : Int) (n : Nat) : List Int := (List.range n).map fun (i : Nat) => a + (i : Int)

theorem upFrom_get {a : Int} {n i : Nat} {x : Int} (e : (upFrom a n)[i]? = some x) : i < n ∧ x = a + (i : Int) := by
  by_cases hi : i < n
  · simp [upFrom, hi] at e
    exact ⟨hi, e.symm⟩
  · simp [upFrom, hi] at e
theorem upFrom_len (a : Int) (n : Nat) : (upFrom a n).length = n := by simp [upFrom]

theorem get_none {h : Heap} {b : Addr} (hb : h.objs.size ≤ b) : h.get? b = none := by
  cases e : h.get? b with
  | none => rfl
  | some o => exact absurd (Heap.lt_size e) (Nat.not_lt.mpr hb)

theorem fresh_back {h h' : Heap} {D : Addr} (e : Ext h h') (t : TabS h) (hn : h'.get? D = none) : h.get? D = none := by
  cases q : h.get? D with
  | none => rfl
  | some o =>
    have ne := (e.tab t).ne hn
    have := e.keep D o (fun x => by rcases x with x | x; exact absurd x ne.1; exact absurd x ne.2.1) q
    rw [hn] at this; cases this

section
variable {prog : Program} {w : World} {A : Around} {α β : Type}

theorem IsSrc.list {R : α → Value → Heap → Prop} (hR : Mono R) (hh : A.handled = none) {xs : List α} {v : Value} {h : Heap} (x : IsL R xs v h) : IsSrc prog w A R xs v h := by
  obtain ⟨l, vs, rfl, p, q⟩ := x
  intro s Q E hx hQ
  have p' := (hx.plain p).isList
  have e1 := q.length
  refine wpAny_pyIter_list p' ?_
  have hlt : l < s.heap.objs.size := by obtain ⟨o, e, _⟩ := p'; exact Heap.lt_size e
  have hne : l ≠ s.heap.objs.size := Nat.ne_of_lt hlt
  have K := SrcOk.list (prog := prog) (w := w) hh s.heap.objs.size l hne vs.toArray
  rw [show vs.toArray.size = xs.length by simpa using e1] at K
  refine hQ _ _ _ _ _ _ _ (fun b o e => Heap.get?_push_of_some _ e) K ?_ ⟨⟨_, Heap.get?_push_size _ rfl, rfl, rfl⟩, p'.push _⟩ ?_ ?_ (fun b hb => by
    simp at hb
    rcases hb with rfl | rfl
    · exact .inl (by simp)
    · obtain ⟨o, e, _, n, d⟩ := id p'
      exact .inr ⟨rfl, o, _, n, e, d⟩)
  · intro i v hv
    obtain ⟨a, ha, hRa⟩ := q.get' (i := i) (v := v) (by simpa using hv)
    exact ⟨a, ha, fun h'' e => hR _ _ _ _ (hx.trans e) hRa⟩
  · intro b hb
    simp at hb; subst hb
    exact get_none (Nat.le_refl _)
  · intro b hb
    show b < (s.heap.push _).objs.size
    rw [Heap.size_push]
    simp at hb
    rcases hb with rfl | rfl
    · exact Nat.lt_succ_self _
    · exact Nat.lt_succ_of_lt hlt

theorem src_range {h : Heap} {r : Addr} {a b : Int} {t u v : Tok} {n : Nat} (hh : A.handled = none) (hr : IsRange h r a b 1 t u v) (ha : -(2 ^ 60) ≤ a) (ha' : a < 2 ^ 60) (hb : -(2 ^ 60) ≤ b) (hb' : b < 2 ^ 60) (hn : n = (b - a).toNat) : IsSrc prog w A IsI (upFrom a n) (.ref r) h := by
  intro s Q E hx hQ
  have hr' : IsRange s.heap r a b 1 t u v := hx.solid (solid_cls (by simp)) hr
  refine wpAny_pyIter_range hr' (small_one (by omega) (by omega) (by omega) (by omega)) ?_
  have K := SrcOk.range (prog := prog) (w := w) hh s.heap.objs.size a n
  have hl : (upFrom a n).length = n := by simp [upFrom]
  rw [← hl] at K
  refine hQ _ _ _ _ _ _ _ (fun b o e => Heap.get?_push_of_some _ e) K ?_ ?_ ?_ ?_ (fun b hb => .inl hb)
  · rintro i v ⟨hi, t', rfl⟩
    refine ⟨a + (i : Int), ?_, fun _ _ => ⟨t', by rw [Int.mul_one]⟩⟩
    have hi' : i < n := by omega
    simp [upFrom, hi']
  · show (s.heap.push _).get? s.heap.objs.size = some _
    rw [Heap.get?_push_size _ rfl, rangeSize_one, hl]
    have e : (if a < b then b - a else 0) = (n : Int) := by split <;> omega
    rw [e]
    simp
  · intro b hb
    simp at hb; subst hb
    exact get_none (Nat.le_refl _)
  · intro b hb
    show b < (s.heap.push _).objs.size
    rw [Heap.size_push]
    simp at hb; subst hb
    exact Nat.lt_succ_self _

/-! comprehensions -/
theorem start_core {elt iter target : PySem.Expr} {ifs : List PySem.Expr} {scope : Scope} {pos : Pos} {I : Addr} {fp wr : List Addr} {n : Nat} {P : Nat → Value → Prop} {St : Nat → Heap → Prop} {acc : Value} {cenv : Env}
    {RES : Result → Shared → Prop} {s : Shared} (K : SrcOk prog w A I fp wr n P St) (h0 : St 0 s.heap)
    (h : codeAny (model prog w) A (.compLoop (.ListComp elt [⟨target, iter, ifs, 0⟩] scope pos) 0 (.ref I) acc cenv) RES s) :
    codeAny (model prog w) A (.compStart (.ListComp elt [⟨target, iter, ifs, 0⟩] scope pos) 0 (.ref I) acc cenv) RES s :=
  codeAny_compStart_list h (K.W.self 0 _ _ _ h0 h)

/-- the block behind the iterator: the target is a local name of the comprehension -/
theorem block_local {elt iter : PySem.Expr} {t : Str} {pt : Pos} {ifs : List PySem.Expr} {scope : Scope} {cl : List (Str × Addr)} {pos : Pos} {env : Env} {I : Addr} {fp wr : List Addr} {P : Nat → Value → Prop} {St : Nat → Heap → Prop} {hb : Heap}
    {R : α → Value → Heap → Prop} {S : β → Value → Heap → Prop} {xs : List α} {p : α → Bool} {f : α → β} {RR : Value → Addr → Result → Shared → Prop} {E : Value → Shared → Prop} {s : Shared}
    (hcell : ∀ y ∈ scope.names, y.2 ≠ .cell) (hkind : scope.kind = .function) (hx : scope.names.lookup t = some .local)
    (K : SrcOk prog w A I fp wr xs.length P St) (hsz : xs.length ≤ sizeLine) (hbk : ∀ b o, hb.get? b = some o → s.heap.get? b = some o) (hP : ∀ i v, P i v → ∃ a, xs[i]? = some a ∧ ∀ h', Ext hb h' → R a v h') (hSm : Mono S) (hSl : Loc S)
    (hwr : ∀ b ∈ wr, hb.get? b = none) (hfp : ∀ b ∈ fp, b < s.heap.objs.size) (h0 : St 0 s.heap)
    (hbody : ∀ a v C H, a ∈ xs → Ext hb H → R a v H → (∃ m, H.Ns C m ∧ m t = some v) →
      Tr prog w A H (testsOf ifs (compEnvC scope cl C env)) (Is (p a)) ∧
      (p a = true → ∀ (s' : Shared) E', Ext H s'.heap → wpAny (model prog w) A (eval elt (compEnvC scope cl C env)) (fun y s'' => (S (f a) y s''.heap ∧ ∀ l, y = .ref l → (∃ o, Solid o ∧ hb.get? l = some o) ∨ s'.heap.get? l = none) ∧ Go s' s'') E' s'))
    (hRR : ∀ D C h' tk ys, hb.get? D = none → hb.get? C = none → s.heap.get? D = none → D ≠ C → (∃ m, h'.Ns C m) → h'.PlainList D ys → All2 S h' ((xs.filter p).map f) ys.toList → (∀ l, .ref l ∈ ys.toList → l ≠ C) → Ext hb h' → RR (.ref D) C (.ok .next) { s with heap := h', toks := tk }) :
    wpAny (model prog w) A (newList []) (fun acc s₃ => wpAny (model prog w) A (newFunctionEnv scope env.globals cl [] env.qual none .none (some env)) (fun cenv s₄ =>
      codeAny (model prog w) A (.compStart (.ListComp elt [⟨.Name t pt, iter, ifs, 0⟩] scope pos) 0 (.ref I) acc { cenv with scope := relabel scope env }) (RR acc cenv.locals) s₄) E s₃) E s := by
  refine wpAny_newObj_type (wpAny_newFunctionEnv hcell (by intro y hy; simp at hy) (fun h₁ hns₁ hsb₁ => ?_) hkind)
  dsimp only at hns₁ hsb₁ ⊢
  generalize hH2 : s.heap.push { cls := .type "list", dict := none, data := .seq ([] : List Value).toArray } = H2 at hns₁ hsb₁ ⊢
  have hC : H2.objs.size = s.heap.objs.size + 1 := by rw [← hH2, Heap.size_push]
  have hDC : s.heap.objs.size ≠ H2.objs.size := by rw [hC]; exact Nat.ne_of_lt (Nat.lt_succ_self _)
  have none_of : ∀ a, s.heap.objs.size ≤ a → hb.get? a = none := fun a ha => by
    cases e : hb.get? a with
    | none => rfl
    | some o => exact absurd (Heap.lt_size (hbk _ _ e)) (Nat.not_lt.mpr ha)
  have old : ∀ b o, s.heap.get? b = some o → h₁.get? b = some o := fun b o e => hsb₁.extBut b o (by rw [hC]; exact Nat.ne_of_lt (Nat.lt_succ_of_lt (Heap.lt_size e))) (Heap.get?_push_of_some _ (hH2 ▸ Heap.get?_push_of_some _ e))
  have hacc : h₁.PlainList s.heap.objs.size #[] := ⟨_, hsb₁.extBut _ _ hDC (Heap.get?_push_of_some _ (hH2 ▸ Heap.get?_push_size _ rfl))⟩
  have hst₁ : St 0 h₁ := K.W.frame _ _ _ h0 fun b _ o e => old b o e
  have hDf : s.heap.objs.size ∉ fp := fun hm => Nat.lt_irrefl _ (hfp _ hm)
  have hCf : H2.objs.size ∉ fp := fun hm => by have := hfp _ hm; rw [hC] at this; exact Nat.lt_irrefl _ (Nat.lt_of_succ_lt this)
  have run : ∀ s₃ : Shared, s₃ = { s with heap := h₁, toks := s.toks + ([] : List (Str × Value)).length } →
      codeAny (model prog w) A (.compStart (.ListComp elt [⟨.Name t pt, iter, ifs, 0⟩] scope pos) 0 (.ref I) (.ref s.heap.objs.size) (compEnvC scope cl H2.objs.size env)) (RR (.ref s.heap.objs.size) H2.objs.size) s₃ := by
    rintro s₃ rfl
    refine start_core K hst₁ ?_
    refine loop_core (hb := hb) (VF := [H2.objs.size]) (J := fun h => ∃ m, h.Ns H2.objs.size m) (Jv := fun v h => ∃ m, h.Ns H2.objs.size m ∧ m t = some v) (R := R) (S := S) (p := p) (f := f) K hsz hP hSm hSl hwr ?_ ⟨none_of _ (Nat.le_refl _), hDf, by simpa using hDC⟩ ?_ ?_ ?_ ?_ ?_ ?_ hst₁ ⟨_, hns₁⟩ hacc (.of_keep fun b o e => old b o (hbk b o e)) ?_
    · intro b hb'
      simp at hb'; subst hb'
      exact ⟨none_of _ (by rw [hC]; exact Nat.le_succ _), hCf⟩
    · rintro h h' ⟨m, hm⟩ hk
      exact ⟨m, hm.at' fun o e => hk _ (by simp) o e⟩
    · rintro h ⟨m, hm⟩ b hb'
      simp at hb'; subst hb'
      obtain ⟨o, es, ep, e, hd, r⟩ := id hm
      exact ⟨o, e, solid_dict hd, noRec_ns hm⟩
    · rintro v h h' ⟨m, hm, hv⟩ e
      exact ⟨m, e.ns hm, hv⟩
    · rintro v s' Q E' ⟨m, hm⟩ hQ
      refine wpAny_assign_Name (wpAny_storeName_local (lookup_relabel_local hx) hm (fun h' hn hs => ?_) (by simp [compEnvC, relabel, hkind]))
      refine hQ h' _ ⟨_, hn⟩ ⟨_, hn, by simp⟩ fun b o hb' e => ?_
      have hb2 : b ≠ H2.objs.size := by simpa using hb'
      exact hs.extBut b o hb2 e
    · rintro a v H ha e hr _ hv
      exact (hbody a v _ H ha e hr hv).1
    · rintro a v s' E' ha hp e hr _ hv
      exact (hbody a v _ s'.heap ha e hr hv).2 hp s' E' (.refl _)
    · rintro h' tk ys ⟨m, hm⟩ hd hall hnv he
      exact hRR _ _ h' tk ys (none_of _ (Nat.le_refl _)) (none_of _ (by rw [hC]; exact Nat.le_succ _)) (get_none (Nat.le_refl _)) hDC ⟨m, hm⟩ hd hall (fun l hl => by simpa using (hnv l hl).1) he
  exact run _ rfl

theorem eval_LC {elt : PySem.Expr} {gens : List Comprehension} {scope : Scope} {pos : Pos} {env : Env} {t : PySem.Expr} {iter : PySem.Expr} {ifs : List PySem.Expr} {Q : Value → Shared → Prop} {E : Value → Shared → Prop} {s : Shared} {M : Model}
    (hg : gens = [⟨t, iter, ifs, 0⟩]) (h : wpAny M A (comprehension (.ListComp elt gens scope pos) scope env (firstIterPos gens pos) (newList []) false (eval iter env)) Q E s) : wpAny M A (eval (.ListComp elt gens scope pos) env) Q E s := by
  subst hg
  exact h

/-- a comprehension whose elements are no new lists (ints, or lists that stood before) or new ones; its target is its own local name -/
theorem ev_comp {elt iter : PySem.Expr} {t : Str} {pt : Pos} {ifs : List PySem.Expr} {scope : Scope} {cl : List (Str × Addr)} {pos : Pos} {env : Env} {h : Heap}
    {R : α → Value → Heap → Prop} {S : β → Value → Heap → Prop} {xs : List α} (p : α → Bool) (f : α → β)
    (hclos : closureFor scope env = pure cl) (hcell : ∀ y ∈ scope.names, y.2 ≠ .cell) (hkind : scope.kind = .function) (hnames : ∀ y ∈ scope.names, y.2 = .local → scope.names.lookup y.1 = some .local) (hx : scope.names.lookup t = some .local)
    (hsz : xs.length ≤ sizeLine) (hSm : Mono S) (hSl : Loc S) (hsrc : Tr prog w A h (eval iter env) (IsSrc prog w A R xs))
    (hbody : ∀ a v C H, a ∈ xs → Ext h H → R a v H → (∃ m, H.Ns C m ∧ m t = some v) →
      Tr prog w A H (testsOf ifs (compEnvC scope cl C env)) (Is (p a)) ∧
      (p a = true → ∀ (s' : Shared) E', Ext H s'.heap → wpAny (model prog w) A (eval elt (compEnvC scope cl C env)) (fun y s'' => (S (f a) y s''.heap ∧ ∀ l, y = .ref l → (∃ o, Solid o ∧ h.get? l = some o) ∨ s'.heap.get? l = none) ∧ Go s' s'') E' s'))
    (ht : TabS h) (hs : ∀ x, foldedSetIterable iter env x = pure x := by intro _; rfl) (s : Shared) (E : Value → Shared → Prop) (he : Ext h s.heap) :
    wpAny (model prog w) A (eval (.ListComp elt [⟨.Name t pt, iter, ifs, 0⟩] scope pos) env) (fun y s' => (IsL S ((xs.filter p).map f) y s'.heap ∧ ∃ D, y = .ref D ∧ s.heap.get? D = none) ∧ Go s s') E s := by
  refine eval_LC rfl (wpAny_comprehension_free (use := none) rfl hs hclos hkind hnames (hsrc.go he fun xv s₁ hxv g₁ => hxv s₁ _ _ (.refl _) fun I fp wr P St h' tk hk K hP h0 hwr hfp _ => ?_))
  refine block_local (RR := fun acc C => compPost (model prog w) A E none _ acc C) (hb := s₁.heap) (R := R) (S := S) (p := p) (f := f) hcell hkind hx K hsz hk hP hSm hSl hwr hfp h0 ?_ ?_
  · intro a v C H ha e hr hm
    obtain ⟨b1, b2⟩ := hbody a v C H ha ((he.trans g₁.ext).trans e) hr hm
    refine ⟨b1, fun hp s' E' e' => wpAny_mono (b2 hp s' E' e') (fun y s'' hy => ⟨⟨hy.1.1, fun l el => ?_⟩, hy.2⟩) fun _ _ x => x⟩
    rcases hy.1.2 l el with ⟨o, so, ho⟩ | hn
    · exact .inl ⟨o, so, (he.trans g₁.ext).solid so ho⟩
    · exact .inr hn
  · intro D C h'' tk' ys hD hC hD2 hDC hm hd hall hnv e
    obtain ⟨m, hm⟩ := hm
    refine ⟨m, hm, fun h₃ hs₃ => ?_⟩
    have k₃ : ∀ b o, b ∉ [C] → h''.get? b = some o → h₃.get? b = some o := fun b o hb' g => hs₃.extBut b o (by simpa using hb') g
    have e₃ : Ext s₁.heap h₃ := e.step (V := [C]) (fun b hb' => by simp at hb'; subst hb'; exact hC) (fun b hb' q => by simp at hb'; subst hb'; exact noRec_ns hm q) k₃
    refine ⟨⟨⟨D, ys.toList, rfl, hd.at fun o g => k₃ D o (by simpa using hDC) g, hall.loc hSl fun l hl o g => k₃ l o (by simpa using hnv l hl) g⟩, D, rfl, ?_⟩, ?_⟩
    · exact fresh_back g₁.ext (he.tab ht) hD
    · exact g₁.trans (.mk' e₃)

/-- the block behind the iterator: the target is a cell of the comprehension -/
theorem block_cell {elt iter : PySem.Expr} {t : Str} {pt : Pos} {ifs : List PySem.Expr} {scope : Scope} {cl : List (Str × Addr)} {pos : Pos} {env : Env} {I : Addr} {fp wr : List Addr} {P : Nat → Value → Prop} {St : Nat → Heap → Prop} {hb : Heap}
    {R : α → Value → Heap → Prop} {S : β → Value → Heap → Prop} {xs : List α} {p : α → Bool} {f : α → β} {RR : Value → Addr → Result → Shared → Prop} {E : Value → Shared → Prop} {s : Shared}
    (hcells : ∀ n acc, cellsFrom n scope.names acc = (t, n) :: acc) (hpush : ∀ h : Heap, pushCells h scope.names = h.push { cls := .type "cell", data := .cell none }) (hkind : scope.kind = .function)
    (hx : ∀ C c, Env.kindOf (compEnvC scope ((t, c) :: cl) C env) t = some .cell)
    (K : SrcOk prog w A I fp wr xs.length P St) (hsz : xs.length ≤ sizeLine) (hbk : ∀ b o, hb.get? b = some o → s.heap.get? b = some o) (hP : ∀ i v, P i v → ∃ a, xs[i]? = some a ∧ ∀ h', Ext hb h' → R a v h') (hSm : Mono S) (hSl : Loc S)
    (hwr : ∀ b ∈ wr, hb.get? b = none) (hfp : ∀ b ∈ fp, b < s.heap.objs.size) (h0 : St 0 s.heap)
    (hbody : ∀ a v C c H, a ∈ xs → Ext hb H → R a v H → (∃ m, H.Ns C m) → H.IsCell c (some v) →
      Tr prog w A H (testsOf ifs (compEnvC scope ((t, c) :: cl) C env)) (Is (p a)) ∧
      (p a = true → ∀ (s' : Shared) E', Ext H s'.heap → wpAny (model prog w) A (eval elt (compEnvC scope ((t, c) :: cl) C env)) (fun y s'' => (S (f a) y s''.heap ∧ ∀ l, y = .ref l → (∃ o, Solid o ∧ hb.get? l = some o) ∨ s'.heap.get? l = none) ∧ Go s' s'') E' s'))
    (hRR : ∀ D C h' tk ys, hb.get? D = none → hb.get? C = none → s.heap.get? D = none → D ≠ C → (∃ m, h'.Ns C m) → h'.PlainList D ys → All2 S h' ((xs.filter p).map f) ys.toList → (∀ l, .ref l ∈ ys.toList → l ≠ C) → Ext hb h' → RR (.ref D) C (.ok .next) { s with heap := h', toks := tk }) :
    wpAny (model prog w) A (newList []) (fun acc s₃ => wpAny (model prog w) A (newFunctionEnv scope env.globals cl [] env.qual none .none (some env)) (fun cenv s₄ =>
      codeAny (model prog w) A (.compStart (.ListComp elt [⟨.Name t pt, iter, ifs, 0⟩] scope pos) 0 (.ref I) acc { cenv with scope := relabel scope env }) (RR acc cenv.locals) s₄) E s₃) E s := by
  refine wpAny_newObj_type ?_
  simp only [newFunctionEnv, Option.isSome_some, if_true]
  refine wpAny_bind (wpAny_alloc ?_)
  refine wpAny_bind (wpAny_layCells _ (fun name kind cells => by cases hkc : kind == NameKind.cell <;> simp [hkc]) _ _ _ _ ?_)
  rw [hcells, hpush]
  refine wpAny_bind (wpAny_pure (wpAny_pure ?_))
  dsimp only
  generalize hH2 : s.heap.push { cls := .type "list", dict := none, data := .seq ([] : List Value).toArray } = H2
  generalize hH3 : H2.push { cls := .type "dict", data := .dict #[] } = H3
  have hC : H2.objs.size = s.heap.objs.size + 1 := by rw [← hH2, Heap.size_push]
  have hc : H3.objs.size = s.heap.objs.size + 2 := by rw [← hH3, Heap.size_push, hC]
  generalize hh₁ : H3.push { cls := .type "cell", data := .cell none } = h₁
  have hDC : s.heap.objs.size ≠ H2.objs.size := by rw [hC]; exact Nat.ne_of_lt (Nat.lt_succ_self _)
  have hDc : s.heap.objs.size ≠ H3.objs.size := by rw [hc]; omega
  have hCc : H2.objs.size ≠ H3.objs.size := by rw [hc, hC]; omega
  have none_of : ∀ a, s.heap.objs.size ≤ a → hb.get? a = none := fun a ha => by
    cases e : hb.get? a with
    | none => rfl
    | some o => exact absurd (Heap.lt_size (hbk _ _ e)) (Nat.not_lt.mpr ha)
  have up2 : ∀ b o, s.heap.get? b = some o → H2.get? b = some o := fun b o e => hH2 ▸ Heap.get?_push_of_some _ e
  have up3 : ∀ b o, H2.get? b = some o → H3.get? b = some o := fun b o e => hH3 ▸ Heap.get?_push_of_some _ e
  have up4 : ∀ b o, H3.get? b = some o → h₁.get? b = some o := fun b o e => hh₁ ▸ Heap.get?_push_of_some _ e
  have old : ∀ b o, s.heap.get? b = some o → h₁.get? b = some o := fun b o e => up4 _ _ (up3 _ _ (up2 _ _ e))
  have hacc : h₁.PlainList s.heap.objs.size #[] := ⟨_, up4 _ _ (up3 _ _ (hH2 ▸ Heap.get?_push_size _ rfl))⟩
  have hns₁ : h₁.Ns H2.objs.size fun _ => none := (hH3 ▸ Heap.Ns.new H2 (.type "dict")).keeps up4
  have hce₁ : h₁.IsCell H3.objs.size none := ⟨_, hh₁ ▸ Heap.get?_push_size _ rfl, rfl⟩
  have hst₁ : St 0 h₁ := K.W.frame _ _ _ h0 fun b _ o e => old b o e
  have hDf : s.heap.objs.size ∉ fp := fun hm => Nat.lt_irrefl _ (hfp _ hm)
  have hCf : H2.objs.size ∉ fp := fun hm => by have h9 : @LT.lt Nat _ H2.objs.size s.heap.objs.size := hfp _ hm; omega
  have hcf : H3.objs.size ∉ fp := fun hm => by have h9 : @LT.lt Nat _ H3.objs.size s.heap.objs.size := hfp _ hm; omega
  have run : ∀ s₃ : Shared, s₃ = { s with heap := h₁ } →
      codeAny (model prog w) A (.compStart (.ListComp elt [⟨.Name t pt, iter, ifs, 0⟩] scope pos) 0 (.ref I) (.ref s.heap.objs.size) (compEnvC scope ((t, H3.objs.size) :: cl) H2.objs.size env)) (RR (.ref s.heap.objs.size) H2.objs.size) s₃ := by
    rintro s₃ rfl
    refine start_core K hst₁ ?_
    refine loop_core (hb := hb) (VF := [H2.objs.size, H3.objs.size]) (J := fun h => (∃ m, h.Ns H2.objs.size m) ∧ ∃ v, h.IsCell H3.objs.size v) (Jv := fun v h => (∃ m, h.Ns H2.objs.size m) ∧ h.IsCell H3.objs.size (some v)) (R := R) (S := S) (p := p) (f := f) K hsz hP hSm hSl hwr ?_ ⟨none_of _ (Nat.le_refl _), hDf, by simp [hDC, hDc]⟩ ?_ ?_ ?_ ?_ ?_ ?_ hst₁ ⟨⟨_, hns₁⟩, _, hce₁⟩ hacc (.of_keep fun b o e => old b o (hbk b o e)) ?_
    · intro b hb'
      simp at hb'
      rcases hb' with rfl | rfl
      · exact ⟨none_of _ (by omega), hCf⟩
      · exact ⟨none_of _ (by omega), hcf⟩
    · rintro h h' ⟨⟨m, hm⟩, v, o, e, hd⟩ hk
      exact ⟨⟨m, hm.at' fun o e => hk _ (by simp) o e⟩, v, o, hk _ (by simp) o e, hd⟩
    · rintro h ⟨⟨m, hm⟩, v, hv⟩ b hb'
      simp at hb'
      rcases hb' with rfl | rfl
      · obtain ⟨o, es, ep, e, hd, r⟩ := id hm
        exact ⟨o, e, solid_dict hd, noRec_ns hm⟩
      · obtain ⟨o, e, hd⟩ := id hv
        exact ⟨o, e, solid_cell hd, noRec_cell hv⟩
    · rintro v h h' ⟨⟨m, hm⟩, hv⟩ e
      exact ⟨⟨m, e.ns hm⟩, e.cell hv⟩
    · rintro v s' Q E' ⟨⟨m, hm⟩, v₀, hv₀⟩ hQ
      refine wpAny_assign_Name (wpAny_storeName_cell (c := H3.objs.size) (by simp [compEnvC, relabel, hkind]) (hx _ _) (by simp [compEnvC]) hv₀ (fun h' hv' hs => ?_))
      refine hQ h' _ ⟨⟨m, hm.sameBut hs hCc⟩, _, hv'⟩ ⟨⟨m, hm.sameBut hs hCc⟩, hv'⟩ fun b o hb' e => hs.extBut b o ?_ e
      simp at hb'
      exact hb'.2
    · rintro a v H ha e hr _ hv
      exact (hbody a v _ _ H ha e hr hv.1 hv.2).1
    · rintro a v s' E' ha hp e hr _ hv
      exact (hbody a v _ _ s'.heap ha e hr hv.1 hv.2).2 hp s' E' (.refl _)
    · rintro h' tk ys ⟨⟨m, hm⟩, _⟩ hd hall hnv he
      exact hRR _ _ h' tk ys (none_of _ (Nat.le_refl _)) (none_of _ (by omega)) (get_none (Nat.le_refl _)) hDC ⟨m, hm⟩ hd hall (fun l hl => by have := (hnv l hl).1; simp at this; exact this.1) he
  exact run _ rfl

theorem ev_compCell {elt iter : PySem.Expr} {t : Str} {pt : Pos} {ifs : List PySem.Expr} {scope : Scope} {cl : List (Str × Addr)} {pos : Pos} {env : Env} {h : Heap}
    {R : α → Value → Heap → Prop} {S : β → Value → Heap → Prop} {xs : List α} (p : α → Bool) (f : α → β)
    (hclos : closureFor scope env = pure cl) (hcells : ∀ n acc, cellsFrom n scope.names acc = (t, n) :: acc) (hpush : ∀ h : Heap, pushCells h scope.names = h.push { cls := .type "cell", data := .cell none }) (hkind : scope.kind = .function) (hnames : ∀ y ∈ scope.names, y.2 = .local → scope.names.lookup y.1 = some .local)
    (hx : ∀ C c, Env.kindOf (compEnvC scope ((t, c) :: cl) C env) t = some .cell)
    (hsz : xs.length ≤ sizeLine) (hSm : Mono S) (hSl : Loc S) (hsrc : Tr prog w A h (eval iter env) (IsSrc prog w A R xs))
    (hbody : ∀ a v C c H, a ∈ xs → Ext h H → R a v H → (∃ m, H.Ns C m) → H.IsCell c (some v) →
      Tr prog w A H (testsOf ifs (compEnvC scope ((t, c) :: cl) C env)) (Is (p a)) ∧
      (p a = true → ∀ (s' : Shared) E', Ext H s'.heap → wpAny (model prog w) A (eval elt (compEnvC scope ((t, c) :: cl) C env)) (fun y s'' => (S (f a) y s''.heap ∧ ∀ l, y = .ref l → (∃ o, Solid o ∧ h.get? l = some o) ∨ s'.heap.get? l = none) ∧ Go s' s'') E' s'))
    (ht : TabS h) (hs : ∀ x, foldedSetIterable iter env x = pure x := by intro _; rfl) (s : Shared) (E : Value → Shared → Prop) (he : Ext h s.heap) :
    wpAny (model prog w) A (eval (.ListComp elt [⟨.Name t pt, iter, ifs, 0⟩] scope pos) env) (fun y s' => (IsL S ((xs.filter p).map f) y s'.heap ∧ ∃ D, y = .ref D ∧ s.heap.get? D = none) ∧ Go s s') E s := by
  refine eval_LC rfl (wpAny_comprehension_free (use := none) rfl hs hclos hkind hnames (hsrc.go he fun xv s₁ hxv g₁ => hxv s₁ _ _ (.refl _) fun I fp wr P St h' tk hk K hP h0 hwr hfp _ => ?_))
  refine block_cell (RR := fun acc C => compPost (model prog w) A E none _ acc C) (hb := s₁.heap) (R := R) (S := S) (p := p) (f := f) hcells hpush hkind hx K hsz hk hP hSm hSl hwr hfp h0 ?_ ?_
  · intro a v C c H ha e hr hm hv
    obtain ⟨b1, b2⟩ := hbody a v C c H ha ((he.trans g₁.ext).trans e) hr hm hv
    refine ⟨b1, fun hp s' E' e' => wpAny_mono (b2 hp s' E' e') (fun y s'' hy => ⟨⟨hy.1.1, fun l el => ?_⟩, hy.2⟩) fun _ _ x => x⟩
    rcases hy.1.2 l el with ⟨o, so, ho⟩ | hn
    · exact .inl ⟨o, so, (he.trans g₁.ext).solid so ho⟩
    · exact .inr hn
  · intro D C h'' tk' ys hD hC hD2 hDC hm hd hall hnv e
    obtain ⟨m, hm⟩ := hm
    refine ⟨m, hm, fun h₃ hs₃ => ?_⟩
    have k₃ : ∀ b o, b ∉ [C] → h''.get? b = some o → h₃.get? b = some o := fun b o hb' g => hs₃.extBut b o (by simpa using hb') g
    have e₃ : Ext s₁.heap h₃ := e.step (V := [C]) (fun b hb' => by simp at hb'; subst hb'; exact hC) (fun b hb' q => by simp at hb'; subst hb'; exact noRec_ns hm q) k₃
    refine ⟨⟨⟨D, ys.toList, rfl, hd.at fun o g => k₃ D o (by simpa using hDC) g, hall.loc hSl fun l hl o g => k₃ l o (by simpa using hnv l hl) g⟩, D, rfl, ?_⟩, ?_⟩
    · exact fresh_back g₁.ext (he.tab ht) hD
    · exact g₁.trans (.mk' e₃)

/-- a tree that gives a new object -/
def TrN (prog : Program) (w : World) (A : Around) (h : Heap) (t : Sem Value) (Φ : Value → Heap → Prop) : Prop :=
  ∀ (s : Shared) (E : Value → Shared → Prop), Ext h s.heap → wpAny (model prog w) A t (fun v s' => (Φ v s'.heap ∧ ∃ D, v = .ref D ∧ s.heap.get? D = none) ∧ Go s s') E s
theorem TrN.tr {h : Heap} {t : Sem Value} {Φ : Value → Heap → Prop} (x : TrN prog w A h t Φ) : Tr prog w A h t Φ := fun s E hx => wpAny_mono (x s E hx) (fun _ _ y => ⟨y.1.1, y.2⟩) fun _ _ e => e
theorem TrN.elt {hb h : Heap} {t : Sem Value} {Φ : Value → Heap → Prop} (x : TrN prog w A h t Φ) (s : Shared) (E : Value → Shared → Prop) (hx : Ext h s.heap) :
    wpAny (model prog w) A t (fun y s'' => (Φ y s''.heap ∧ ∀ l, y = .ref l → (∃ o, Solid o ∧ hb.get? l = some o) ∨ s.heap.get? l = none) ∧ Go s s'') E s :=
  wpAny_mono (x s E hx) (fun v s' ⟨⟨a, D, e, hn⟩, g⟩ => ⟨⟨a, fun l el => .inr (by rw [e] at el; cases el; exact hn)⟩, g⟩) fun _ _ e => e
theorem Tr.eltI {hb h : Heap} {t : Sem Value} {a : Int} (x : Tr prog w A h t (IsI a)) (s : Shared) (E : Value → Shared → Prop) (hx : Ext h s.heap) :
    wpAny (model prog w) A t (fun y s'' => (IsI a y s''.heap ∧ ∀ l, y = .ref l → (∃ o, Solid o ∧ hb.get? l = some o) ∨ s.heap.get? l = none) ∧ Go s s'') E s :=
  wpAny_mono (x s E hx) (fun v s' ⟨⟨t, e⟩, g⟩ => ⟨⟨⟨t, e⟩, fun l el => by rw [e] at el; cases el⟩, g⟩) fun _ _ e => e
end

section
variable {prog : Program} {w : World} {A : Around} {h : Heap} {env : Env} {pos : Pos}

/-! calls of built-ins -/
theorem ev_callB {f : Str} {id : String} {p : Pos} {e : PySem.Expr} {Φ Ψ : Value → Heap → Prop} (rf : Rd env f (.builtin id) h) (he : Tr prog w A h (eval e env) Φ) (hc : ∀ v h', Ext h h' → Φ v h' → Tr prog w A h' (call (.builtin id) [v]) Ψ)
    (hs : starEach [e] env = [(false, eval e env)] := by rfl) (hd : (f == ("__debug__" : Str)) = false := by decide) : Tr prog w A h (eval (.Call (.Name f p) [e] [] pos) env) Ψ := fun _ _ hx =>
  Call_ ((rf.up hx).wp hd (PyProof.Rows.callWith_builtin1 (args_cons (he.go hx fun _ _ hv g1 => args_nil ((hc _ _ (hx.trans g1.ext) hv).go (.refl _) fun _ _ h2 g2 => ⟨h2, g1.trans g2⟩)) hs) hs))
theorem ev_callB2 {f : Str} {id : String} {p : Pos} {e e2 : PySem.Expr} {Φ Φ2 Ψ : Value → Heap → Prop} (rf : Rd env f (.builtin id) h) (he : Tr prog w A h (eval e env) Φ) (he2 : ∀ h', Ext h h' → Tr prog w A h' (eval e2 env) Φ2)
    (hc : ∀ v u h' h'', Ext h h' → Ext h' h'' → Φ v h' → Φ2 u h'' → Tr prog w A h'' (call (.builtin id) [v, u]) Ψ)
    (hs : starEach [e, e2] env = (false, eval e env) :: starEach [e2] env := by rfl) (hs2 : starEach [e2] env = [(false, eval e2 env)] := by rfl) (hd : (f == ("__debug__" : Str)) = false := by decide) : Tr prog w A h (eval (.Call (.Name f p) [e, e2] [] pos) env) Ψ := fun _ _ hx =>
  Call_ ((rf.up hx).wp hd (PyProof.Rows.callWith_builtin1 (args_cons (he.go hx fun _ _ hv g1 => args_cons ((he2 _ (hx.trans g1.ext)).go (.refl _) fun _ _ hu g2 => args_nil ((hc _ _ _ _ (hx.trans g1.ext) g2.ext hv hu).go (.refl _) fun _ _ h2 g3 => ⟨h2, (g1.trans g2).trans g3⟩)) hs2) hs) hs (by rw [hs2]; rfl)))
theorem ev_callT {f : Str} {T : String} {p : Pos} {e : PySem.Expr} {Φ Ψ : Value → Heap → Prop} (rf : Rd env f (.type T) h) (he : Tr prog w A h (eval e env) Φ) (hc : ∀ v h', Ext h h' → Φ v h' → Tr prog w A h' (call (.type T) [v]) Ψ)
    (hs : starEach [e] env = [(false, eval e env)] := by rfl) (hd : (f == ("__debug__" : Str)) = false := by decide) : Tr prog w A h (eval (.Call (.Name f p) [e] [] pos) env) Ψ := fun _ _ hx =>
  Call_ ((rf.up hx).wp hd (PyProof.Rows.callWith_type1 (args_cons (he.go hx fun _ _ hv g1 => args_nil ((hc _ _ (hx.trans g1.ext) hv).go (.refl _) fun _ _ h2 g2 => ⟨h2, g1.trans g2⟩)) hs) hs))
theorem ev_callT2 {f : Str} {T : String} {p : Pos} {e e2 : PySem.Expr} {Φ Φ2 Ψ : Value → Heap → Prop} (rf : Rd env f (.type T) h) (he : Tr prog w A h (eval e env) Φ) (he2 : ∀ h', Ext h h' → Tr prog w A h' (eval e2 env) Φ2)
    (hc : ∀ v u h' h'', Ext h h' → Ext h' h'' → Φ v h' → Φ2 u h'' → Tr prog w A h'' (call (.type T) [v, u]) Ψ)
    (hs : starEach [e, e2] env = (false, eval e env) :: starEach [e2] env := by rfl) (hs2 : starEach [e2] env = [(false, eval e2 env)] := by rfl) (hd : (f == ("__debug__" : Str)) = false := by decide) : Tr prog w A h (eval (.Call (.Name f p) [e, e2] [] pos) env) Ψ := fun _ _ hx =>
  Call_ ((rf.up hx).wp hd (PyProof.Rows.callWith_type1 (args_cons (he.go hx fun _ _ hv g1 => args_cons ((he2 _ (hx.trans g1.ext)).go (.refl _) fun _ _ hu g2 => args_nil ((hc _ _ _ _ (hx.trans g1.ext) g2.ext hv hu).go (.refl _) fun _ _ h2 g3 => ⟨h2, (g1.trans g2).trans g3⟩)) hs2) hs) hs (by rw [hs2]; rfl)))

theorem tr_len {α : Type} {R : α → Value → Heap → Prop} {xs : List α} {v : Value} (x : IsL R xs v h) (hsz : xs.length < 2 ^ 60) : Tr prog w A h (call (.builtin "len") [v]) (IsI xs.length) := fun s E hx => by
  obtain ⟨l, vs, rfl, p, q⟩ := x
  have e1 := q.length
  have e2 : ((vs.toArray.size : Nat) : Int) = (xs.length : Int) := by simp [e1]
  refine call_len_list (hx.plain p).isList (by rw [e2]; omega) ⟨⟨s.toks + 1, ?_⟩, .tok⟩
  rw [e2]
theorem tr_abs {a : Int} {t : Tok} : Tr prog w A h (call (.builtin "abs") [.int a t]) (IsI (if a < 0 then -a else a)) := fun _ _ _ => call_abs_int fun _ _ => ⟨⟨_, rfl⟩, .tok⟩
theorem tr_min {a b : Int} {t u : Tok} (hh : A.handled = none) : Tr prog w A h (call (.builtin "min") [.int a t, .int b u]) (IsI (if b < a then b else a)) := fun _ _ _ => min_two_ints hh fun h' tk hk => by
  by_cases c : b < a
  · simp only [if_pos c]; exact ⟨⟨_, rfl⟩, .mk' (.of_keep hk)⟩
  · simp only [if_neg c]; exact ⟨⟨_, rfl⟩, .mk' (.of_keep hk)⟩
theorem tr_max {a b : Int} {t u : Tok} (hh : A.handled = none) : Tr prog w A h (call (.builtin "max") [.int a t, .int b u]) (IsI (if b > a then b else a)) := fun _ _ _ => max_two_ints hh fun h' tk hk => by
  by_cases c : b > a
  · simp only [if_pos c]; exact ⟨⟨_, rfl⟩, .mk' (.of_keep hk)⟩
  · simp only [if_neg c]; exact ⟨⟨_, rfl⟩, .mk' (.of_keep hk)⟩
theorem preSum_sum (ns : List Int) : preSum (fun i => (ns[i]?).getD 0) ns.length = ns.sum := by
  have : ∀ (k : Nat), k ≤ ns.length → preSum (fun i => (ns[i]?).getD 0) k = (ns.take k).sum := by
    intro k
    induction k with
    | zero => intro _; simp [preSum]
    | succ k ih =>
      intro hk
      have hlt : k < ns.length := by omega
      rw [preSum, ih (by omega), List.take_add_one, List.sum_append]
      simp [hlt]
  rw [this _ (Nat.le_refl _), List.take_length]
theorem tr_sum {ns : List Int} {v : Value} (hh : A.handled = none) (x : IsL IsI ns v h) : Tr prog w A h (call (.builtin "sum") [v]) (IsI ns.sum) := fun s E hx =>
  call_sum_walkG (IsSrc.list (prog := prog) (w := w) (A := A.in1) mono_I hh x s _ _ hx fun I fp wr P St h' tk hk K hP h0 hwr hfp _ =>
    ⟨I, fp, wr, ns.length, P, St, fun i => (ns[i]?).getD 0, rfl, K.W, h0, hfp, fun i v hv => by
      obtain ⟨a, ha, hr⟩ := hP i v hv
      obtain ⟨t, e⟩ := hr _ (.refl _)
      exact ⟨t, by subst e; simp [ha]⟩,
    fun h'' tk' t' hk' => by
      rw [preSum_sum]
      exact ⟨⟨_, rfl⟩, .mk' ((Ext.of_keep hk).step hwr (fun b hb q => K.norec 0 h' h0 b hb q) hk')⟩⟩)
/-- a range: a source, and no list -/
def IsRng (prog : Program) (w : World) (A : Around) (a : Int) (n : Nat) (v : Value) (h : Heap) : Prop := IsSrc prog w A IsI (upFrom a n) v h ∧ ∃ r o vs, v = .ref r ∧ h.get? r = some o ∧ o.data = .fields vs
theorem tr_range1 {b : Int} {t : Tok} (hh : A.handled = none) (h0 : 0 ≤ b) (hb : b < 2 ^ 60) : Tr prog w A h (call (.type "range") [.int b t]) (IsRng prog w A 0 b.toNat) := fun s _ _ =>
  call_range_1 ⟨⟨src_range (t := s.toks) (u := t) (v := s.toks + 1) hh (IsRange.new _ _ _ _ _ _ _) (by decide) (by decide) (by omega) hb (by simp), _, _, _, rfl, Heap.get?_push_size _ rfl, rfl⟩, .mk' (.push _ _)⟩
theorem tr_range2 {a b : Int} {t u : Tok} (hh : A.handled = none) (ha : -(2 ^ 60) ≤ a) (ha' : a < 2 ^ 60) (hb : -(2 ^ 60) ≤ b) (hb' : b < 2 ^ 60) : Tr prog w A h (call (.type "range") [.int a t, .int b u]) (IsRng prog w A a (b - a).toNat) := fun s _ _ =>
  call_range_2 ⟨⟨src_range (t := t) (u := u) (v := s.toks) hh (IsRange.new _ _ _ _ _ _ _) ha ha' hb hb' rfl, _, _, _, rfl, Heap.get?_push_size _ rfl, rfl⟩, .mk' (.push _ _)⟩

/-! lists compared -/
theorem tr_eqL {xs ys : List Int} {u v : Value} (hu : A.units + 64 < cLine) (x : IsL IsI xs u h) (y : IsL IsI ys v h) : Tr prog w A h (compareOp .Eq u v) (IsB (decide (xs = ys))) := fun s E hx => by
  obtain ⟨l, vs, rfl, p, q⟩ := x
  obtain ⟨l', vs', rfl, p', q'⟩ := y
  refine ke_eq_ints (hx.plain p).isList (hx.plain p').isList (All2.ints q) (All2.ints q') hu ?_
  exact ⟨rfl, .refl s⟩
theorem tr_neL {xs ys : List Int} {u v : Value} (hu : A.units + 64 < cLine) (x : IsL IsI xs u h) (y : IsL IsI ys v h) : Tr prog w A h (compareOp .NotEq u v) (IsB (!decide (xs = ys))) := fun s E hx => by
  obtain ⟨l, vs, rfl, p, q⟩ := x
  obtain ⟨l', vs', rfl, p', q'⟩ := y
  refine ke_ne_ints (hx.plain p).isList (hx.plain p').isList (All2.ints q) (All2.ints q') hu ?_
  exact ⟨rfl, .refl s⟩
theorem tr_eqNil {α : Type} {R : α → Value → Heap → Prop} {xs : List α} {u v : Value} (hu : A.units + 64 < cLine) (x : IsL R xs u h) (y : IsL R [] v h) : Tr prog w A h (compareOp .Eq u v) (IsB xs.isEmpty) := fun s E hx => by
  obtain ⟨l, vs, rfl, p, q⟩ := x
  obtain ⟨l', vs', rfl, p', q'⟩ := y
  cases q'
  cases q with
  | nil =>
    refine ke_eq_ints (hx.plain p).isList (hx.plain p').isList .nil .nil hu ?_
    exact ⟨rfl, .refl s⟩
  | cons a b =>
    refine PySem.SeqAt.eq_list_lengthsAt (hx.plain p).isList (hx.plain p').isList (by simp) (by omega) ?_
    exact ⟨rfl, .refl s⟩
end


/-- lists and tuples stay -/
def Hd (h h' : Heap) : Prop := ∀ b o xs n, o.data = .seq xs n → h.get? b = some o → h'.get? b = some o
theorem Hd.refl (h : Heap) : Hd h h := fun _ _ _ _ _ e => e
theorem Hd.trans {h h' h'' : Heap} (x : Hd h h') (y : Hd h' h'') : Hd h h'' := fun b o xs n d e => y b o xs n d (x b o xs n d e)
theorem Ext.hd {h h' : Heap} (x : Ext h h') : Hd h h' := fun _ _ _ _ d e => x.solid (solid_seq d) e
theorem Hd.plain {h h' : Heap} (x : Hd h h') {a : Addr} {xs : Array Value} (y : h.PlainList a xs) : h'.PlainList a xs := let ⟨n, e⟩ := y; ⟨n, x _ _ xs n rfl e⟩
theorem Hd.ints {h h' : Heap} (x : Hd h h') {ns : List Int} {v : Value} (y : IsL IsI ns v h) : IsL IsI ns v h' := by
  obtain ⟨l, vs, e, p, q⟩ := y
  exact ⟨l, vs, e, x.plain p, All2.imp (h := h) (h' := h') (R := IsI) (R' := IsI) (fun _ _ y => y) q⟩
theorem Hd.lots {h h' : Heap} (x : Hd h h') {ns : List (List Int)} {v : Value} (y : IsL (IsL IsI) ns v h) : IsL (IsL IsI) ns v h' := by
  obtain ⟨l, vs, e, p, q⟩ := y
  exact ⟨l, vs, e, x.plain p, All2.imp (fun _ _ y => x.ints y) q⟩

def upd (m : Str → Option Value) (x : Str) (v : Value) : Str → Option Value := fun y => if y = x then some v else m y

structure Fm (s₀ : Shared) (env : Env) (m cm : Str → Option Value) (s : Shared) : Prop where
  same : ∃ h tk, s = { s₀ with heap := h, toks := tk }
  ext : Ext s₀.heap s.heap
  ns : s.heap.Ns env.locals m
  cell : ∀ n c, env.cells.lookup n = some c → s.heap.IsCell c (cm n)
  fresh : s₀.heap.get? env.locals = none
  cfresh : ∀ n c, env.cells.lookup n = some c → s₀.heap.get? c = none
  apart : ∀ n n' c, env.cells.lookup n = some c → env.cells.lookup n' = some c → n = n'
  kind : env.scope.kind = .function

namespace Fm
variable {s₀ s : Shared} {env : Env} {m cm : Str → Option Value}
theorem of_call (x : InCallC s₀ env.locals m env.cells cm s) (hk : env.scope.kind = .function) : Fm s₀ env m cm s :=
  ⟨x.toInCall.same, .of_keep x.toInCall.keep, x.toInCall.ns, x.cell, get_none x.toInCall.fresh, fun n c hc => get_none (Nat.le_of_lt (Nat.lt_of_le_of_lt x.toInCall.fresh (x.above n c (mem_of_lookup hc)))),
    fun _ _ _ h1 h2 => name_of_addr x.apart (mem_of_lookup h1) (mem_of_lookup h2), hk⟩
theorem go (F : Fm s₀ env m cm s) {s' : Shared} (g : Go s s') : Fm s₀ env m cm s' := by
  obtain ⟨h', tk, rfl, e⟩ := g
  obtain ⟨h₁, tk₁, rfl⟩ := F.same
  exact ⟨⟨h', tk, rfl⟩, F.ext.trans e, e.ns F.ns, fun n c hc => e.cell (F.cell n c hc), F.fresh, F.cfresh, F.apart, F.kind⟩
theorem Go (F : Fm s₀ env m cm s) : Go s₀ s := by
  obtain ⟨h, tk, rfl⟩ := F.same
  exact ⟨h, tk, rfl, F.ext⟩
theorem loc (F : Fm s₀ env m cm s) {x : Str} {v : Value} (hx : env.kindOf x = some .local) (hv : m x = some v) : Rd env x v s.heap := .loc m F.kind hx F.ns hv
theorem rdc (F : Fm s₀ env m cm s) {x : Str} {v : Value} {c : Addr} (hx : env.kindOf x = some .cell) (hc : env.cells.lookup x = some c) (hv : cm x = some v) : Rd env x v s.heap := .cell c F.kind hx hc (hv ▸ F.cell _ _ hc)
theorem neLC (F : Fm s₀ env m cm s) {n : Str} {c : Addr} (hc : env.cells.lookup n = some c) : env.locals ≠ c := by
  intro e
  obtain ⟨o, es, ep, g, hd, _⟩ := F.ns
  obtain ⟨o', g', hd'⟩ := F.cell n c hc
  rw [e, g'] at g; cases g
  rw [hd'] at hd; cases hd
theorem keepL (F : Fm s₀ env m cm s) {h' : Heap} (hk : ∀ b o, b ≠ env.locals → s.heap.get? b = some o → h'.get? b = some o) : Hd s.heap h' := fun b o xs n d e => hk b o (by
  rintro rfl
  obtain ⟨o', es, ep, g, hd, _⟩ := F.ns
  rw [e] at g; cases g
  rw [d] at hd; cases hd) e
theorem keepC (F : Fm s₀ env m cm s) {n : Str} {c : Addr} (hc : env.cells.lookup n = some c) {h' : Heap} (hk : ∀ b o, b ≠ c → s.heap.get? b = some o → h'.get? b = some o) : Hd s.heap h' := fun b o xs k d e => hk b o (by
  rintro rfl
  obtain ⟨o', g, hd⟩ := F.cell n _ hc
  rw [e] at g; cases g
  rw [d] at hd; cases hd) e
/-- another object than the frame's own changes -/
theorem step (F : Fm s₀ env m cm s) {h' : Heap} {tk : Nat} {V : List Addr} (hV : ∀ b ∈ V, s₀.heap.get? b = none ∧ b ≠ env.locals ∧ (∀ n c, env.cells.lookup n = some c → b ≠ c) ∧ ∀ q, ¬ s.heap.CodeRec (.ref b) q)
    (hk : ∀ b o, b ∉ V → s.heap.get? b = some o → h'.get? b = some o) : Fm s₀ env m cm { s with heap := h', toks := tk } := by
  obtain ⟨h₁, tk₁, rfl⟩ := F.same
  refine ⟨⟨h', tk, rfl⟩, F.ext.step (V := V) (fun b hb => (hV b hb).1) (fun b hb => (hV b hb).2.2.2) hk, F.ns.at' fun o e => hk _ o (fun hm => (hV _ hm).2.1 rfl) e, fun n c hc => ?_, F.fresh, F.cfresh, F.apart, F.kind⟩
  obtain ⟨o, e, hd⟩ := F.cell n c hc
  exact ⟨o, hk _ o (fun hm => (hV _ hm).2.2.1 n c hc rfl) e, hd⟩
theorem store (F : Fm s₀ env m cm s) {M : Model} {A : Around} {E : Value → Shared → Prop} {x : Str} {v : Value} {Q : Unit → Shared → Prop} (hx : env.kindOf x = some .local)
    (k : ∀ s', Fm s₀ env (upd m x v) cm s' → (∀ b o, b ≠ env.locals → s.heap.get? b = some o → s'.heap.get? b = some o) → Q () s') : wpAny M A (storeName env x v) Q E s := by
  refine wpAny_storeName_local hx F.ns (fun h' hn hs => k _ ?_ fun b o hb e => hs.extBut b o hb e) (by rw [F.kind]; rfl)
  obtain ⟨h₁, tk₁, rfl⟩ := F.same
  refine ⟨⟨h', _, rfl⟩, F.ext.step (V := [env.locals]) (fun b hb => by simp at hb; subst hb; exact F.fresh) (fun b hb q => by simp at hb; subst hb; exact noRec_ns F.ns q) fun b o hb e => hs.extBut b o (by simpa using hb) e, hn, fun n c hc => ?_, F.fresh, F.cfresh, F.apart, F.kind⟩
  obtain ⟨o, e, hd⟩ := F.cell n c hc
  exact ⟨o, hs.extBut c o (F.neLC hc).symm e, hd⟩
theorem storeC (F : Fm s₀ env m cm s) {M : Model} {A : Around} {E : Value → Shared → Prop} {x : Str} {v : Value} {c : Addr} {Q : Unit → Shared → Prop} (hx : env.kindOf x = some .cell) (hc : env.cells.lookup x = some c)
    (k : ∀ s', Fm s₀ env m (upd cm x v) s' → (∀ b o, b ≠ c → s.heap.get? b = some o → s'.heap.get? b = some o) → Q () s') : wpAny M A (storeName env x v) Q E s := by
  refine wpAny_storeName_cell F.kind hx hc (F.cell _ _ hc) (fun h' hv hs => k _ ?_ fun b o hb e => hs.extBut b o hb e)
  obtain ⟨h₁, tk₁, rfl⟩ := F.same
  refine ⟨⟨h', _, rfl⟩, F.ext.step (V := [c]) (fun b hb => by simp at hb; subst hb; exact F.cfresh _ _ hc) (fun b hb q => by simp at hb; subst hb; exact noRec_cell (F.cell _ _ hc) q) fun b o hb e => hs.extBut b o (by simpa using hb) e, F.ns.sameBut hs (F.neLC hc), fun n c' hc' => ?_, F.fresh, F.cfresh, F.apart, F.kind⟩
  by_cases hn : n = x
  · subst hn
    rw [hc] at hc'; cases hc'
    simpa [upd] using hv
  · obtain ⟨o, e, hd⟩ := F.cell n c' hc'
    exact ⟨o, hs.extBut c' o (fun q => hn (F.apart n x c' hc' (q ▸ hc))) e, by simpa [upd, hn] using hd⟩
end Fm

section
variable {prog : Program} {w : World} {A : Around} {E : Value → Shared → Prop} {s₀ s : Shared} {env : Env} {m cm : Str → Option Value} {Q : Flow → Shared → Prop}

/-! statements -/
theorem st_assign {x : Str} {px pos : Pos} {e : PySem.Expr} {Φ : Value → Heap → Prop} (F : Fm s₀ env m cm s) (he : Tr prog w A s.heap (eval e env) Φ) (hx : env.kindOf x = some .local)
    (k : ∀ v s' s'', Φ v s'.heap → Go s s' → Fm s₀ env (upd m x v) cm s'' → Hd s'.heap s''.heap → (∀ b o, b ≠ env.locals → s'.heap.get? b = some o → s''.heap.get? b = some o) → Q .next s'')
    (hs : swapsWith e (some (.Name x px)) pos.line env = pure false := by rfl) : wpAny (model prog w) A (exec (.Assign [.Name x px] e pos) env) Q E s :=
  wpAny_Assign_Name (he.go (.refl _) fun v s' hv g => (F.go g).store hx fun s'' F'' hk => k v s' s'' hv g F'' ((F.go g).keepL hk) hk) hs
theorem st_assignC {x : Str} {px pos : Pos} {e : PySem.Expr} {c : Addr} {Φ : Value → Heap → Prop} (F : Fm s₀ env m cm s) (he : Tr prog w A s.heap (eval e env) Φ) (hx : env.kindOf x = some .cell) (hc : env.cells.lookup x = some c)
    (k : ∀ v s' s'', Φ v s'.heap → Go s s' → Fm s₀ env m (upd cm x v) s'' → Hd s'.heap s''.heap → (∀ b o, b ≠ c → s'.heap.get? b = some o → s''.heap.get? b = some o) → Q .next s'')
    (hs : swapsWith e (some (.Name x px)) pos.line env = pure false := by rfl) : wpAny (model prog w) A (exec (.Assign [.Name x px] e pos) env) Q E s :=
  wpAny_Assign_Name (he.go (.refl _) fun v s' hv g => (F.go g).storeC hx hc fun s'' F'' hk => k v s' s'' hv g F'' ((F.go g).keepC hc hk) hk) hs
theorem st_if {test : PySem.Expr} {body orelse : List Stmt} {pos : Pos} {b : Bool} (ht : Tr prog w A s.heap (isTrue test env (eval test env)) (Is b))
    (k : ∀ s', Go s s' → if b then wpAny (model prog w) A (execs body env) Q E s' else wpAny (model prog w) A (execs orelse env) Q E s') : wpAny (model prog w) A (exec (.If test body orelse pos) env) Q E s :=
  wpAny_If (ht.go (.refl _) fun c s' hc g => by
    have hc : c = b := hc
    subst hc
    exact k s' g)
theorem st_ret {e : PySem.Expr} {pos : Pos} {Φ : Value → Heap → Prop} (he : Tr prog w A s.heap (eval e env) Φ) (k : ∀ v s', Φ v s'.heap → Go s s' → Q (.ret v) s') : wpAny (model prog w) A (exec (.Return (some e) pos) env) Q E s :=
  wpAny_Return_some (he.go (.refl _) fun v s' hv g => k v s' hv g)

def rv (f : Flow) : Value := match f with | .ret v => v | _ => .none

/-! calls of defs -/
theorem call_fn {a : Addr} {o : Obj} {fd : FuncData} {body : List Stmt} {vals : List Value} {binds : List (Str × Value)} {P : Shared → Value → Shared → Prop} {h : Heap}
    (hA : A.depth < recursionLimit) (ho : h.get? a = some o) (hd : o.data = .func fd) (hlim : h.NoLimit) (hcd : ∀ h', Ext h h' → h'.CodeRec fd.code fd.qualname) (hbody : fd.body = .stmts body) (hbind : bindArgs fd ⟨vals, []⟩ = pure binds) (hclo : fd.closure = [])
    (hkind : ∀ n, ∀ x ∈ binds, fd.scope.names.lookup x.1 = some .local ∨ (fd.scope.names.lookup x.1 = some .cell ∧ ((cellsFrom n fd.scope.names []).lookup x.1).isSome = true))
    (run : ∀ (s₀ s : Shared) (env : Env), Ext h s₀.heap → env = callEnvC fd s₀.heap.objs.size a → Fm s₀ env (bindL env.kindOf binds fun _ => none) (bindC env.kindOf binds fun _ => none) s →
      wpAny (model prog w) (A.deeper env) (execs body env) (fun f s' => P s₀ (rv f) s') (fun _ _ => False) s)
    (hco : fd.scope.isCoroutine = false := by rfl) (hgen : fd.scope.isGenerator = false := by rfl) (hk : fd.scope.kind = .function := by rfl) (s : Shared) (E : Value → Shared → Prop) (hx : Ext h s.heap) :
    wpAny (model prog w) A (call (.ref a) vals) (fun v s' => P s v s') E s := by
  refine wpAny_call (codeAny_call_cells hA (hx.solid (solid_func hd) ho) hd (hx.nolimit hlim) (hcd _ hx) hbody hbind hclo (hkind _) (fun s₁ x => ?_) hco hgen hk)
  refine wpAny_mono (run s s₁ _ hx rfl (.of_call x (by exact hk))) (fun f s' hp => ?_) fun _ _ f => f.elim
  cases f <;> exact hp

theorem ev_callF {f : Str} {a : Addr} {o : Obj} {fd : FuncData} {p pos : Pos} {e : PySem.Expr} {h : Heap} {Φ Ψ : Value → Heap → Prop} (rf : Rd env f (.ref a) h) (ho : h.get? a = some o) (hd : o.data = .func fd) (he : Tr prog w A h (eval e env) Φ)
    (hc : ∀ v h', Ext h h' → Φ v h' → Tr prog w A h' (call (.ref a) [v]) Ψ)
    (hs : starEach [e] env = [(false, eval e env)] := by rfl) (hdb : (f == ("__debug__" : Str)) = false := by decide) : Tr prog w A h (eval (.Call (.Name f p) [e] [] pos) env) Ψ := fun _ _ hx =>
  Call_ ((rf.up hx).wp hdb (callWith_def hd (args_cons (he.go hx fun _ _ hv g1 => args_nil ⟨(hx.trans g1.ext).solid (solid_func hd) ho, (hc _ _ (hx.trans g1.ext) hv).go (.refl _) fun _ _ h2 g2 => ⟨h2, g1.trans g2⟩⟩) hs) hs))
theorem evN_callF {f : Str} {a : Addr} {o : Obj} {fd : FuncData} {p pos : Pos} {e : PySem.Expr} {h : Heap} {Φ Ψ : Value → Heap → Prop} (ht : TabS h) (rf : Rd env f (.ref a) h) (ho : h.get? a = some o) (hd : o.data = .func fd) (he : Tr prog w A h (eval e env) Φ)
    (hc : ∀ v h', Ext h h' → Φ v h' → TrN prog w A h' (call (.ref a) [v]) Ψ)
    (hs : starEach [e] env = [(false, eval e env)] := by rfl) (hdb : (f == ("__debug__" : Str)) = false := by decide) : TrN prog w A h (eval (.Call (.Name f p) [e] [] pos) env) Ψ := fun _ _ hx =>
  Call_ ((rf.up hx).wp hdb (callWith_def hd (args_cons (he.go hx fun _ _ hv g1 => args_nil ⟨(hx.trans g1.ext).solid (solid_func hd) ho, wpAny_mono (hc _ _ (hx.trans g1.ext) hv _ _ (.refl _)) (fun _ _ ⟨⟨a, D, e, hn⟩, g2⟩ => ⟨⟨a, D, e, fresh_back g1.ext (hx.tab ht) hn⟩, g1.trans g2⟩) fun _ _ x => x⟩) hs) hs))
theorem ev_callF2 {f : Str} {a : Addr} {o : Obj} {fd : FuncData} {p pos : Pos} {e e2 : PySem.Expr} {h : Heap} {Φ Φ2 Ψ : Value → Heap → Prop} (rf : Rd env f (.ref a) h) (ho : h.get? a = some o) (hd : o.data = .func fd) (he : Tr prog w A h (eval e env) Φ) (he2 : ∀ h', Ext h h' → Tr prog w A h' (eval e2 env) Φ2)
    (hc : ∀ v u h' h'', Ext h h' → Ext h' h'' → Φ v h' → Φ2 u h'' → Tr prog w A h'' (call (.ref a) [v, u]) Ψ)
    (hs : starEach [e, e2] env = (false, eval e env) :: starEach [e2] env := by rfl) (hs2 : starEach [e2] env = [(false, eval e2 env)] := by rfl) (hdb : (f == ("__debug__" : Str)) = false := by decide) : Tr prog w A h (eval (.Call (.Name f p) [e, e2] [] pos) env) Ψ := fun _ _ hx =>
  Call_ ((rf.up hx).wp hdb (callWith_def hd (args_cons (he.go hx fun _ _ hv g1 => args_cons ((he2 _ (hx.trans g1.ext)).go (.refl _) fun _ _ hu g2 => args_nil ⟨((hx.trans g1.ext).trans g2.ext).solid (solid_func hd) ho, (hc _ _ _ _ (hx.trans g1.ext) g2.ext hv hu).go (.refl _) fun _ _ h2 g3 => ⟨h2, (g1.trans g2).trans g3⟩⟩) hs2) hs) hs))
end


/-- all but some objects (and the tables) stay -/
def KM (V : List Addr) (h h' : Heap) : Prop := ∀ b o, b ∉ V → Solid o → h.get? b = some o → h'.get? b = some o
theorem KM.refl (V : List Addr) (h : Heap) : KM V h h := fun _ _ _ _ e => e
theorem KM.trans {V : List Addr} {h h' h'' : Heap} (x : KM V h h') (y : KM V h' h'') : KM V h h'' := fun b o n s e => y b o n s (x b o n s e)
theorem Ext.km {V : List Addr} {h h' : Heap} (x : Ext h h') : KM V h h' := fun _ _ _ s e => x.solid s e
theorem KM.of_but {V : List Addr} {a : Addr} {h h' : Heap} (ha : a ∈ V) (hk : ∀ b o, b ≠ a → h.get? b = some o → h'.get? b = some o) : KM V h h' := fun b o n _ e => hk b o (fun q => n (q ▸ ha)) e
theorem KM.plain {V : List Addr} {h h' : Heap} (x : KM V h h') {a : Addr} {xs : Array Value} (ha : a ∉ V) (y : h.PlainList a xs) : h'.PlainList a xs := let ⟨n, e⟩ := y; ⟨n, x _ _ ha (solid_seq (xs := xs) (n := n) rfl) e⟩

section
variable {prog : Program} {w : World} {A : Around} {E : Value → Shared → Prop} {s₀ s : Shared} {env : Env} {m cm : Str → Option Value} {Q : Flow → Shared → Prop}

theorem st_for {target iter : PySem.Expr} {body : List Stmt} {pos : Pos} {Φ : Value → Heap → Prop} (h : Tr prog w A s.heap (eval iter env) Φ)
    (k : ∀ v s', Φ v s'.heap → Go s s' → wpAny (model prog w) A (pyIter v) (fun it s₂ => codeAny (model prog w) A (.forLoop target it body [] env) (fun r s' => match r with | .ok f => Q f s' | .error _ => False) s₂) E s')
    (hs : ∀ x, foldedSetIterable iter env x = pure x := by intro _; rfl) : wpAny (model prog w) A (exec (.For target iter body [] pos) env) Q E s :=
  wpAny_For (h.go (.refl _) fun v s' hv g => wpAny_mono (k v s' hv g) (fun it s₂ h₂ => codeAny_mono h₂ fun r s' hr => by
    cases r with
    | ok f => exact hr
    | error e => exact hr.elim) fun _ _ e => e) hs

theorem for_core {α : Type} {R : α → Value → Heap → Prop} {xs : List α} {v : Value} {x : Str} {px : Pos} {body : List Stmt} {RES : Result → Shared → Prop} (hsrc : IsSrc prog w A R xs v s.heap) (F : Fm s₀ env m cm s)
    {tgt : Addr} {um ucm : (Str → Option Value) → Value → Str → Option Value}
    (hst : ∀ (s1 : Shared) m cm u (Q : Unit → Shared → Prop) (E : Value → Shared → Prop), Fm s₀ env m cm s1 → (∀ s2, Fm s₀ env (um m u) (ucm cm u) s2 → (∀ b o, b ≠ tgt → s1.heap.get? b = some o → s2.heap.get? b = some o) → Q () s2) → wpAny (model prog w) A (storeName env x u) Q E s1)
    (V : List Addr) (hV : ∀ b ∈ V, ∃ o, s.heap.get? b = some o ∧ ((∀ xs n, o.data ≠ .seq xs n) ∨ v ≠ .ref b)) (hL : env.locals ∈ V) (hT : tgt ∈ V) (t0 : TabS s₀.heap)
    (I : Nat → (Str → Option Value) → (Str → Option Value) → Heap → Prop)
    (hI : ∀ i m cm h h', I i m cm h → (∀ b o, (∀ vs, o.data ≠ .fields vs) → h.get? b = some o → h'.get? b = some o) → I i m cm h')
    (h0 : I 0 m cm s.heap)
    (turn : ∀ i a u m cm s1 s2, xs[i]? = some a → R a u s.heap → KM V s.heap s1.heap → Fm s₀ env m cm s1 → I i m cm s1.heap → Fm s₀ env (um m u) (ucm cm u) s2 → (∀ b o, b ≠ tgt → s1.heap.get? b = some o → s2.heap.get? b = some o) →
      wpAny (model prog w) A (execs body env) (fun fl s3 => (fl = .next ∧ (∃ m' cm', Fm s₀ env m' cm' s3 ∧ I (i + 1) m' cm' s3.heap) ∧ KM V s2.heap s3.heap) ∨ ∃ r, fl = .ret r ∧ RES (.ok (.ret r)) s3) (fun _ _ => False) s2)
    (done : ∀ m' cm' s', Fm s₀ env m' cm' s' → I xs.length m' cm' s'.heap → KM V s.heap s'.heap → RES (.ok .next) s') :
    wpAny (model prog w) A (pyIter v) (fun it s₂ => codeAny (model prog w) A (.forLoop (.Name x px) it body [] env) RES s₂) E s := by
  refine hsrc s _ _ (.refl _) fun It fp wr P St h' tk hk K hP st0 hwr hfp hfw => ?_
  have hVwr : ∀ b ∈ V, b ∉ wr := fun b hb hm => by
    obtain ⟨o, e, _⟩ := hV b hb
    rw [hwr b hm] at e; cases e
  have hVfp : ∀ b ∈ V, b ∉ fp := fun b hb hm => (hfw b hm).elim (hVwr b hb) fun ⟨e1, o, xs', n, e2, d⟩ => by
    obtain ⟨o', e3, c⟩ := hV b hb
    rw [e2] at e3; cases e3
    exact c.elim (fun c => c _ _ d) fun c => c e1
  have ecell : ∀ n c, env.cells.lookup n = some c → ∃ o, s.heap.get? c = some o := fun n c hc => let ⟨o, e, _⟩ := F.cell n c hc; ⟨o, e⟩
  refine codeAny_forLoop (fun k s' => ∃ m' cm' i, St i s'.heap ∧ Fm s₀ env m' cm' s' ∧ I i m' cm' s'.heap ∧ KM V s.heap s'.heap ∧ i ≤ xs.length ∧ k = xs.length + 1 - i) ?_ (xs.length + 1)
    ⟨m, cm, 0, st0, F.go (.mk' (.of_keep hk)), hI _ _ _ _ _ h0 fun b o _ e => hk b o e, fun b o _ _ e => hk b o e, Nat.zero_le _, rfl⟩
  rintro k s1 ⟨m1, cm1, i, st, F1, hI1, km, hi, rfl⟩
  have wrV : ∀ b ∈ wr, s₀.heap.get? b = none ∧ b ≠ env.locals ∧ (∀ n c, env.cells.lookup n = some c → b ≠ c) ∧ ∀ q, ¬ s1.heap.CodeRec (.ref b) q := fun b hb => by
    refine ⟨fresh_back F.ext t0 (hwr b hb), ?_, ?_, K.norec i _ st b hb⟩
    · rintro rfl
      exact hVwr _ hL hb
    · rintro n c hc rfl
      obtain ⟨o, e⟩ := ecell n _ hc
      rw [hwr _ hb] at e; cases e
  have kmw : ∀ h₁ : Heap, (∀ b o, b ∉ wr → s1.heap.get? b = some o → h₁.get? b = some o) → KM V s.heap h₁ := fun h₁ k₁ b o hb so e => k₁ b o (fun hm => by rw [hwr b hm] at e; cases e) (km b o hb so e)
  have hIw : ∀ h₁ : Heap, (∀ b o, b ∉ wr → s1.heap.get? b = some o → h₁.get? b = some o) → I i m1 cm1 h₁ := fun h₁ k₁ => hI _ _ _ _ _ hI1 fun b o nf e => k₁ b o (fun hm => by
    obtain ⟨o', vs, e', d⟩ := K.fields i _ st b hm
    rw [e] at e'; cases e'
    exact nf _ d) e
  by_cases hlt : i < xs.length
  · refine K.W.item i _ _ _ hlt st fun u h₁ tk₁ hPu st₁ k₁ => ?_
    obtain ⟨a, ha, hRa⟩ := hP i u hPu
    have F1' := F1.step (V := wr) (tk := tk₁) wrV k₁
    refine wpAny_assign_Name (hst _ _ _ _ _ _ F1' fun s2 F2 hk2 => ?_)
    refine wpAny_mono (turn i a u m1 cm1 _ s2 ha (hRa _ (.refl _)) (kmw _ k₁) F1' (hIw _ k₁) F2 hk2) (fun fl s3 h3 => ?_) fun _ _ f => f.elim
    rcases h3 with ⟨rfl, ⟨m', cm', F3, I3⟩, km3⟩ | ⟨r, rfl, h3⟩
    · refine ⟨xs.length + 1 - (i + 1), by omega, m', cm', i + 1, ?_, F3, I3, ?_, hlt, rfl⟩
      · have st2 : St (i + 1) s2.heap := K.W.frame _ _ _ st₁ fun b hb o e => hk2 b o (fun q => hVfp _ hT (q ▸ hb)) e
        exact K.W.frame _ _ _ st2 fun b hb o e => by
          obtain ⟨o', e', so⟩ := K.solid _ _ st2 b hb
          rw [e] at e'; cases e'
          exact km3 b o (fun hm => hVfp b hm hb) so e
      · exact ((kmw _ k₁).trans (.of_but hT hk2)).trans km3
    · exact h3
  · have hin : i = xs.length := by omega
    subst hin
    refine K.W.done _ _ _ st fun h₁ tk₁ k₁ => wpAny_execs_nil ?_
    exact done m1 cm1 _ (F1.step (V := wr) (tk := tk₁) wrV k₁) (hIw _ k₁) (kmw _ k₁)
theorem Fm.vL (F : Fm s₀ env m cm s) (v : Value) : ∃ o, s.heap.get? env.locals = some o ∧ ((∀ xs n, o.data ≠ .seq xs n) ∨ v ≠ .ref env.locals) := by
  obtain ⟨o, _, _, e, d, _⟩ := F.ns
  exact ⟨o, e, .inl fun xs n q => by rw [d] at q; cases q⟩
theorem Fm.vC (F : Fm s₀ env m cm s) {n : Str} {c : Addr} (hc : env.cells.lookup n = some c) (v : Value) : ∃ o, s.heap.get? c = some o ∧ ((∀ xs n, o.data ≠ .seq xs n) ∨ v ≠ .ref c) := by
  obtain ⟨o, e, d⟩ := F.cell n c hc
  exact ⟨o, e, .inl fun xs n q => by rw [d] at q; cases q⟩
theorem vD {D : Addr} {xs : Array Value} (p : s.heap.PlainList D xs) {v : Value} (hr : ∃ r o vs, v = .ref r ∧ s.heap.get? r = some o ∧ o.data = .fields vs) : ∃ o, s.heap.get? D = some o ∧ ((∀ xs n, o.data ≠ .seq xs n) ∨ v ≠ .ref D) := by
  obtain ⟨n, e⟩ := p
  obtain ⟨r, o, vs, rfl, e', d⟩ := hr
  refine ⟨_, e, .inr fun q => ?_⟩
  cases q
  rw [e] at e'; cases e'; cases d
theorem Fm.neLD (F : Fm s₀ env m cm s) {D : Addr} {xs : Array Value} (p : s.heap.PlainList D xs) : D ≠ env.locals := by
  rintro rfl
  obtain ⟨o, _, _, e, d, _⟩ := F.ns
  obtain ⟨n, e'⟩ := p
  rw [e] at e'; cases e'; cases d
theorem Fm.neCD (F : Fm s₀ env m cm s) {D : Addr} {xs : Array Value} (p : s.heap.PlainList D xs) (n : Str) (c : Addr) (hc : env.cells.lookup n = some c) : D ≠ c := by
  rintro rfl
  obtain ⟨o, e, d⟩ := F.cell n _ hc
  obtain ⟨n, e'⟩ := p
  rw [e] at e'; cases e'; cases d
theorem tgtL {x : Str} (hx : env.kindOf x = some .local) : ∀ (s1 : Shared) m cm u (Q : Unit → Shared → Prop) (E : Value → Shared → Prop), Fm s₀ env m cm s1 → (∀ s2, Fm s₀ env (upd m x u) cm s2 → (∀ b o, b ≠ env.locals → s1.heap.get? b = some o → s2.heap.get? b = some o) → Q () s2) → wpAny (model prog w) A (storeName env x u) Q E s1 :=
  fun _ _ _ _ _ _ F k => F.store hx k
theorem tgtC {x : Str} {c : Addr} (hx : env.kindOf x = some .cell) (hc : env.cells.lookup x = some c) : ∀ (s1 : Shared) m cm u (Q : Unit → Shared → Prop) (E : Value → Shared → Prop), Fm s₀ env m cm s1 → (∀ s2, Fm s₀ env m (upd cm x u) s2 → (∀ b o, b ≠ c → s1.heap.get? b = some o → s2.heap.get? b = some o) → Q () s2) → wpAny (model prog w) A (storeName env x u) Q E s1 :=
  fun _ _ _ _ _ _ F k => F.storeC hx hc k

/-- a tuple made and taken apart -/
theorem ext_of_but {h h' : Heap} (e : Heap.ExtBut h.objs.size h h') : Ext h h' := .of_keep fun b o g => e b o (Nat.ne_of_lt (Heap.lt_size g)) g
theorem unpack2 {a b : Value} {t : Addr} {s : Shared} {Q : List Value → Shared → Prop} (hh : A.handled = none) (ht : s.heap.IsTuple t #[a, b]) (k : ∀ s', Go s s' → Q [a, b] s') : wpAny (model prog w) A (unpackItems (.ref t) 2 none) Q E s :=
  wpAny_unpackItems_tuple (items := #[a, b]) hh ht fun h' e => k _ (.mk' (tk := s.toks) (ext_of_but e))
theorem inOrder2 {a b : Value} {t1 t2 : Value → Sem Unit} {s : Shared} {Q : Unit → Shared → Prop} (h : wpAny (model prog w) A (t1 a) (fun _ s1 => wpAny (model prog w) A (t2 b) Q E s1) E s) : wpAny (model prog w) A (assignInOrder [t1, t2] [a, b]) Q E s :=
  wpAny_bind (wpAny_holding (wpAny_mono h (fun _ _ h1 => wpAny_bind (wpAny_holding (wpAny_mono h1 (fun _ _ h2 => wpAny_pure h2) fun _ _ e => e))) fun _ _ e => e))
theorem inOrder3 {a b c : Value} {t1 t2 t3 : Value → Sem Unit} {s : Shared} {Q : Unit → Shared → Prop} (h : wpAny (model prog w) A (t1 a) (fun _ s1 => wpAny (model prog w) A (t2 b) (fun _ s2 => wpAny (model prog w) A (t3 c) Q E s2) E s1) E s) : wpAny (model prog w) A (assignInOrder [t1, t2, t3] [a, b, c]) Q E s :=
  wpAny_bind (wpAny_holding (wpAny_mono h (fun _ _ h1 => inOrder2 h1) fun _ _ e => e))
end

set_option maxRecDepth 100000 in
set_option maxHeartbeats 8000000 in
open_top hd for PySem.Challenge.rw_ie0011_01


structure Gl (w : World) (h : Heap) : Prop where
  K : (hd.heap_39 w.params).In h
  lim : h.NoLimit
  g : ∃ mg, h.Ns mainGlobals mg
  b : ∃ mb, h.Ns builtinsNs mb ∧ ∀ x : Str, x ≠ "__name__" → mb x = bootBuiltins x
  tab : TabS h

noncomputable def objOf (P : Params) (a : Addr) : Obj := ((hd.heap_39 P).lookup a).getD default
noncomputable def fdOf (P : Params) (a : Addr) : FuncData := match objOf P a with | ⟨_, _, .func fd, _⟩ => fd | _ => default

theorem solidK (P : Params) {a : Addr} {o : Obj} (e : (hd.heap_39 P).lookup a = some o) : Solid o := by
  have hK : noTabs (hd.heap_39 P) = true := rfl
  have h2 := List.all_eq_true.mp hK (a, o) (mem_of_lookupK e)
  intro ps q
  subst q
  exact absurd (show false = true from h2) Bool.false_ne_true

namespace Gl
variable {w : World} {h h' : Heap} {env : Env} {x : Str} {v : Value}
theorem up (G : Gl w h) (e : Ext h h') : Gl w h' :=
  ⟨fun a o q => e.solid (solidK _ q) (G.K a o q), e.nolimit G.lim, let ⟨mg, g⟩ := G.g; ⟨mg, e.ns g⟩, let ⟨mb, g, q⟩ := G.b; ⟨mb, e.ns g, q⟩, e.tab G.tab⟩
theorem fn (G : Gl w h) (e : nsIn (hd.heap_39 w.params) mainGlobals x = some (some v)) (hk : env.scope.kind = .function) (hx : env.kindOf x = some .globalImplicit) (hg : env.globals = mainGlobals) : Rd env x v h := by
  obtain ⟨mg, g⟩ := G.g
  exact .glob mg hk hx (hg ▸ g) (mg_of G.K g e)
theorem bui (G : Gl w h) (e : nsIn (hd.heap_39 w.params) mainGlobals x = some none) (hv : bootBuiltins x = some v) (hn : x ≠ "__name__") (hk : env.scope.kind = .function) (hx : env.kindOf x = some .globalImplicit) (hg : env.globals = mainGlobals) (hb : env.builtins = builtinsNs) : Rd env x v h := by
  obtain ⟨mg, g⟩ := G.g
  obtain ⟨mb, b, q⟩ := G.b
  exact .bui mg mb hk hx (hg ▸ g) (mg_none_of G.K g e) (hb ▸ b) ((q x hn).trans hv)
end Gl

theorem Rd.trI {prog : Program} {w : World} {A : Around} {env : Env} {x : Str} {a : Int} {t : Tok} {h : Heap} {pos : Pos} (r : Rd env x (.int a t) h) (hd : (x == ("__debug__" : Str)) = false := by decide) : Tr prog w A h (eval (.Name x pos) env) (IsI a) :=
  (r.tr hd).mono fun v _ _ e => ⟨t, e⟩

theorem boot_len : bootBuiltins "len" = some (.builtin "len") := by decide +kernel
theorem boot_range : bootBuiltins "range" = some (.type "range") := by decide +kernel

theorem bind61 (P : Params) (a b : Value) : bindArgs (fdOf P 61) ⟨[a, b], []⟩ = pure [(("many" : Str), a), (("few" : Str), b)] := rfl

/-- ways to choose -/
def C : Nat → Nat → Nat
  | _, 0 => 1
  | 0, _ + 1 => 0
  | n + 1, k + 1 => C n k + C n (k + 1)

theorem C_step : ∀ n : Fin 11, ∀ k : Fin 11, ((C n k : Int) * ((n : Nat) - (k : Nat) : Int)).fdiv ((k : Nat) + 1) = C n (k + 1) := by decide +kernel

section
variable {prog : Program} {w : World} {A : Around} {h : Heap}
theorem ways_spec (G : Gl w h) (hA : A.depth < recursionLimit) (hh : A.handled = none) {n k : Nat} (hn : n ≤ 10) (hk : k ≤ 10) {t u : Tok} : Tr prog w A h (call (.ref 61) [.int n t, .int k u]) (IsI (C n k)) := fun s E hx => by
  refine call_fn (P := fun s v s' => IsI (C n k) v s'.heap ∧ Go s s') (fd := fdOf w.params 61) hA (G.K 61 _ rfl) rfl G.lim (fun h' e => codeRec_of (G.up e).K rfl) rfl (bind61 _ _ _) rfl (fun n x hx => ?_) (fun s₀ s env hx0 henv F => ?_) rfl rfl rfl s E hx
  · simp at hx
    rcases hx with rfl | rfl <;> exact .inl rfl
  · subst henv
    obtain ⟨mg, G0⟩ : ∃ mg : Unit, Gl w s₀.heap := ⟨(), G.up hx0⟩
    refine wpAny_execs_cons (st_assign F ev_int rfl fun v s1 s2 hv g1 F2 hd1 _ => ?_)
    obtain ⟨tv, rfl⟩ := hv
    refine wpAny_execs_cons (st_for (ev_callT ((G0.up F2.ext).bui rfl boot_range (by decide) rfl rfl rfl rfl) (F2.loc (x := "few") rfl rfl).trI (fun v h' _ ⟨t, e⟩ => by subst e; exact tr_range1 hh (by omega) (by omega))) fun v s3 hsrc g3 => ?_)
    have F3 := F2.go g3
    refine for_core hsrc.1 F3 (tgtL rfl) [s₀.heap.objs.size] (fun b hb => ?_) (.head _) (.head _) G0.tab
      (fun i m cm h => m "many" = some (.int n t) ∧ ∃ tk, m "found" = some (.int (C n i) tk)) (fun i m cm h h' q _ => q) ⟨rfl, tv, by rw [show C n 0 = 1 from by cases n <;> rfl]; rfl⟩ ?_ ?_
    · simp at hb; subst hb
      obtain ⟨o, _, _, e, d, _⟩ := F3.ns
      exact ⟨o, e, .inl fun xs n q => by rw [d] at q; cases q⟩
    · rintro i a u' m cm s4 s5 hi ⟨tu, rfl⟩ km F4 ⟨hm, tk, hf⟩ F5 _
      obtain ⟨hi', rfl⟩ := upFrom_get hi
      have e0 : (0 : Int) + (i : Int) = (i : Int) := by omega
      refine wpAny_execs_cons (st_assign F5 (ev_cast (ev_fdiv (ev_mul (F5.loc (x := "found") rfl hf).trI (ev_sub (F5.loc (x := "many") rfl hm).trI (ev_cast (F5.loc (x := "k") rfl rfl).trI e0)) (by omega) (by omega)) (ev_add (ev_cast (F5.loc (x := "k") rfl rfl).trI e0) ev_int) (by omega) (by omega) (by omega)) (C_step ⟨n, by omega⟩ ⟨i, by omega⟩)) rfl fun v s6 s7 hv g6 F7 _ hk7 => ?_)
      obtain ⟨tv', rfl⟩ := hv
      exact wpAny_execs_nil (.inl ⟨rfl, ⟨_, _, F7, hm, tv', rfl⟩, g6.ext.km.trans (.of_but (.head _) hk7)⟩)
    · rintro m' cm' s' F' ⟨_, tk, hf⟩ _
      rw [upFrom_len, Int.toNat_natCast] at hf
      exact wpAny_execs_cons (st_ret (F'.loc (x := "found") rfl hf).trI fun v s6 hv g6 => ⟨hv, (F'.go g6).Go⟩)
end


/-! what _law_common reckons -/
def takenOf (lots : List (List Int)) (number : Int) : List (List Int) := ((upFrom 0 lots.length).filter fun k => (number.fdiv (2 ^ k.toNat)).fmod 2 == 1).map fun k => (lots[k.toNat]?).getD []
def inAll (tk : List (List Int)) (t : Int) : Bool := (tk.filter fun lot => (lot[t.toNat]?).getD 0 == 0).isEmpty
def cntOf (tk : List (List Int)) : Nat := ((upFrom 0 10).filter (inAll tk)).length
def foundUpTo (lots : List (List Int)) : Nat → List Int
  | 0 => List.replicate (lots.length + 1) 0
  | i + 1 => (foundUpTo lots i).set (takenOf lots i).length (((foundUpTo lots i)[(takenOf lots i).length]?).getD 0 + cntOf (takenOf lots i))
theorem taken_le (lots : List (List Int)) (n : Int) : (takenOf lots n).length ≤ lots.length := by
  unfold takenOf
  rw [List.length_map]
  exact Nat.le_trans (List.length_filter_le _ _) (by simp [upFrom])
theorem taken_mem {lots : List (List Int)} {n : Int} {l : List Int} (h : l ∈ takenOf lots n) : l ∈ lots := by
  unfold takenOf at h
  obtain ⟨k, hk, rfl⟩ := List.mem_map.mp h
  obtain ⟨hk, _⟩ := List.mem_filter.mp hk
  obtain ⟨i, hi, rfl⟩ := List.mem_map.mp hk
  have hi : i < lots.length := by simpa using hi
  simp [hi]
theorem found_len (lots : List (List Int)) : ∀ i, (foundUpTo lots i).length = lots.length + 1
  | 0 => by simp [foundUpTo]
  | i + 1 => by rw [foundUpTo, List.length_set, found_len lots i]

section
variable {prog : Program} {w : World} {A : Around} {h : Heap} {env : Env} {pos : Pos}
theorem Rd.trP {x : Str} {v : Value} {Φ : Value → Heap → Prop} (r : Rd env x v h) (hv : ∀ h', Ext h h' → Φ v h') (hd : (x == ("__debug__" : Str)) = false := by decide) : Tr prog w A h (eval (.Name x pos) env) Φ :=
  fun s _ hx => (r.up hx).wp hd ⟨hv _ hx, .refl s⟩

theorem ev_range1 {f : Str} {p : Pos} {e : PySem.Expr} {n : Nat} (rf : Rd env f (.type "range") h) (hh : A.handled = none) (he : Tr prog w A h (eval e env) (IsI n)) (hn : n < 1000000) (hs : starEach [e] env = [(false, eval e env)] := by rfl) (hd : (f == ("__debug__" : Str)) = false := by decide) :
    Tr prog w A h (eval (.Call (.Name f p) [e] [] pos) env) (IsRng prog w A 0 n) :=
  ev_callT (Ψ := IsRng prog w A 0 n) rf he (fun v h' _ ⟨t, e⟩ => by subst e; exact tr_range1 (b := (n : Int)) hh (by omega) (by omega)) hs hd
theorem IsRng.src {a : Int} {n : Nat} {t : Sem Value} (x : Tr prog w A h t (IsRng prog w A a n)) : Tr prog w A h t (IsSrc prog w A IsI (upFrom a n)) := x.mono fun _ _ _ y => y.1

/-- stood in a heap before -/
def Old (hb : Heap) (v : Value) : Prop := ∀ l, v = .ref l → ∃ o, Solid o ∧ hb.get? l = some o
def LotIn (hb : Heap) (x : List Int) (v : Value) (h : Heap) : Prop := IsL IsI x v h ∧ Old hb v
theorem mono_LotIn (hb : Heap) : Mono (LotIn hb) := fun _ _ _ _ e ⟨a, b⟩ => ⟨mono_LI _ _ _ _ e a, b⟩
theorem loc_LotIn (hb : Heap) : Loc (LotIn hb) := fun _ _ _ _ ⟨a, b⟩ k => ⟨loc_LI _ _ _ _ a k, b⟩
theorem old_of {hb : Heap} {x : List Int} {v : Value} (a : IsL IsI x v hb) : Old hb v := by
  obtain ⟨l, vs, rfl, ⟨n, p⟩, _⟩ := a
  intro l' e
  cases e
  exact ⟨_, solid_seq (xs := vs.toArray) (n := n) rfl, p⟩
theorem lots_in {hb h' : Heap} (e : Ext hb h') {lots : List (List Int)} {v : Value} (x : IsL (IsL IsI) lots v hb) : IsL (LotIn hb) lots v h' := by
  obtain ⟨l, vs, rfl, p, q⟩ := x
  exact ⟨l, vs, rfl, e.plain p, All2.imp (h := hb) (h' := h') (R := IsL IsI) (R' := LotIn hb) (fun _ _ y => ⟨mono_LI _ _ _ _ e y, old_of y⟩) q⟩
theorem lots_out {hb h' : Heap} {lots : List (List Int)} {v : Value} (x : IsL (LotIn hb) lots v h') : IsL (IsL IsI) lots v h' := by
  obtain ⟨l, vs, rfl, p, q⟩ := x
  exact ⟨l, vs, rfl, p, All2.imp (fun _ _ y => y.1) q⟩
theorem Tr.eltOld {α : Type} {hb hc h : Heap} {t : Sem Value} {S : α → Value → Heap → Prop} {a : α} (x : Tr prog w A h t (fun v h' => S a v h' ∧ Old hb v)) (hbc : Ext hb hc) (s : Shared) (E : Value → Shared → Prop) (hx : Ext h s.heap) :
    wpAny (model prog w) A t (fun y s'' => (S a y s''.heap ∧ ∀ l, y = .ref l → (∃ o, Solid o ∧ hc.get? l = some o) ∨ s.heap.get? l = none) ∧ Go s s'') E s :=
  wpAny_mono (x s E hx) (fun v s' ⟨⟨a, b⟩, g⟩ => ⟨⟨a, fun l el => .inl (let ⟨o, so, e⟩ := b l el; ⟨o, so, hbc.solid so e⟩)⟩, g⟩) fun _ _ e => e

theorem evN_bin {l r : PySem.Expr} {op : Operator} {Φ Ψ Ξ : Value → Heap → Prop} (ht : TabS h) (hl : Tr prog w A h (eval l env) Φ) (hr : ∀ h', Ext h h' → Tr prog w A h' (eval r env) Ψ)
    (hop : ∀ u v h' h'', Ext h h' → Ext h' h'' → Φ u h' → Ψ v h'' → TrN prog w A h'' (binaryOp op u v) Ξ) : TrN prog w A h (eval (.BinOp l op r pos) env) Ξ := fun _ _ hx =>
  wpAny_BinOp (hl.go hx fun u s1 hu g1 => (hr s1.heap (hx.trans g1.ext)).go (.refl _) fun v s2 hv g2 => wpAny_mono (hop u v _ _ (hx.trans g1.ext) g2.ext hu hv s2 _ (.refl _)) (fun _ _ ⟨⟨a, D, e, hn⟩, g3⟩ => ⟨⟨a, D, e, fresh_back (g1.trans g2).ext (hx.tab ht) hn⟩, (g1.trans g2).trans g3⟩) fun _ _ e => e)
theorem evN_mulL {α : Type} {R : α → Value → Heap → Prop} (hR : Mono R) (ht : TabS h) {l r : PySem.Expr} {x : α} {k : Int} (hl : Tr prog w A h (eval l env) (IsL R [x])) (hr : Tr prog w A h (eval r env) (IsI k)) (h0 : 0 ≤ k) (hk : k ≤ 1000000) :
    TrN prog w A h (eval (.BinOp l .Mult r pos) env) (IsL R (List.replicate k.toNat x)) :=
  evN_bin ht hl (fun _ hx => hr.up hx) fun u v h' h'' _ hx ⟨l, vs, e, p, q⟩ ⟨t, e'⟩ => by
    subst e; subst e'
    intro s E hy
    obtain ⟨n, hn⟩ := (hx.trans hy).plain p
    cases q with
    | @cons _ v _ _ hv q' =>
    cases q'
    have hd : ({ cls := .type "list", data := .seq (List.foldl (fun x1 x2 => x1 ++ x2) #[] (List.replicate (if (#[v] : Array Value).isEmpty = true then 0 else k.toNat) #[v])) } : Obj) = { cls := .type "list", data := .seq (List.replicate k.toNat v).toArray } := by
      have : List.foldl (fun x1 x2 => x1 ++ x2) #[] (List.replicate (if (#[v] : Array Value).isEmpty = true then 0 else k.toNat) #[v]) = (List.replicate k.toNat v).toArray := by
        rw [listMul_foldl_if]
        simp
      rw [this]
    refine wpAny_binaryOp_repeat_ref (T := "list") (U := "int") (by decide) ⟨_, hn, rfl⟩ (fun s' => typeIs_int s' k t) noFill_list_mul F.fills_int_mul F.slot_int_rmul repeat_list F.slot_int_index.lookup
      (call_meets F.slot_int_rmul (typeIs_int s k t) F.entry_int_rmul (F.args_int_rmul_2 _ _) (int___rmul___int_list k t _ _ _)
        ⟨hn, rfl, ⟨_, hn, rfl⟩, call_meets F.slot_list_mul ⟨_, hn, rfl⟩ F.entry_list_mul (F.args_list_mul_2 _ _)
          (AutoListH.list___mul___list_int_3 _ _ _ k t (by simp [Builtin.List.listFitsIndex]; omega) (by simp; omega) (by simp [Builtin.List.listTooLong, sizeLine]; omega))
          ⟨hn, ?_⟩⟩)
    refine ⟨⟨⟨_, List.replicate k.toNat v, rfl, ⟨0, ?_⟩, ?_⟩, _, rfl, get_none (Nat.le_refl _)⟩, .mk' (.push _ _)⟩
    · exact (Heap.get?_push_size _ rfl).trans (congrArg some hd)
    · refine All2.up hR (Ext.push _ _) (All2.up hR (hx.trans hy) ?_)
      generalize k.toNat = m
      induction m with
      | zero => exact .nil
      | succ m ih => exact .cons hv ih

theorem pow_small {j : Nat} (hj : j ≤ 10) : 0 < (2 : Int) ^ j ∧ (2 : Int) ^ j ≤ 1024 := by
  have : ∀ j : Fin 11, 0 < (2 : Int) ^ (j : Nat) ∧ (2 : Int) ^ (j : Nat) ≤ 1024 := by decide
  exact this ⟨j, by omega⟩

theorem set_plain {E : Value → Shared → Prop} {s : Shared} {l : Addr} {vs : List Value} {k : Int} {t : Tok} {v : Value} {Q : Unit → Shared → Prop} (p : s.heap.PlainList l vs.toArray) (h0 : 0 ≤ k) (hk : k < vs.length) (hfit : k < 2 ^ 62)
    (hQ : ∀ h', h'.PlainList l (vs.set k.toNat v).toArray → (∀ b o, b ≠ l → s.heap.get? b = some o → h'.get? b = some o) → Q () { s with heap := h' }) : wpAny (model prog w) A (setItem (.ref l) (.int k t) v) Q E s := by
  obtain ⟨n, e⟩ := p
  refine ki_setAt e h0 (by omega) (by simpa using hk) (hQ _ ?_ fun b o hb g => (Heap.SameBut.update ..).extBut b o hb g)
  have e2 : (vs.toArray.setIfInBounds k.toNat v) = (vs.set k.toNat v).toArray := by
    apply Array.toList_inj.mp
    simp
  refine ⟨n, ?_⟩
  rw [← e2]
  exact (Heap.get?_update_self _ e rfl).trans (by simp [Obj.mapSeq])
theorem All2.set {α : Type} {R : α → Value → Heap → Prop} {h : Heap} {xs : List α} {vs : List Value} (x : All2 R h xs vs) {a : α} {v : Value} (hv : R a v h) : ∀ i : Nat, All2 R h (xs.set i a) (vs.set i v) := by
  induction x with
  | nil => intro i; exact .nil
  | cons y z ih =>
    intro i
    cases i with
    | zero => exact .cons hv z
    | succ i => exact .cons y (ih i)
theorem Hd.lotsIn {hb h h' : Heap} (x : Hd h h') {ns : List (List Int)} {v : Value} (y : IsL (LotIn hb) ns v h) : IsL (LotIn hb) ns v h' := by
  obtain ⟨l, vs, e, p, q⟩ := y
  exact ⟨l, vs, e, x.plain p, All2.imp (fun _ _ y => ⟨x.ints y.1, y.2⟩) q⟩

theorem bind54 (P : Params) (a : Value) : bindArgs (fdOf P 54) ⟨[a], []⟩ = pure [(("lots" : Str), a)] := rfl

theorem common_spec (G : Gl w h) (hA : A.depth < recursionLimit) (hu : A.units + 100 < cLine) (hh : A.handled = none) {lots : List (List Int)} (hl : lots.length ≤ 4) (h10 : ∀ l ∈ lots, l.length = 10) {v : Value} (hv : IsL (IsL IsI) lots v h) :
    TrN prog w A h (call (.ref 54) [v]) (IsL IsI (foundUpTo lots (2 ^ lots.length))) := fun s E hx => by
  refine call_fn (P := fun s v s' => (IsL IsI (foundUpTo lots (2 ^ lots.length)) v s'.heap ∧ ∃ D, v = .ref D ∧ s.heap.get? D = none) ∧ Go s s') (fd := fdOf w.params 54) hA (G.K 54 _ rfl) rfl G.lim (fun h' e => codeRec_of (G.up e).K rfl) rfl (bind54 _ _) rfl (fun n x hx => ?_) (fun s₀ s env hx0 henv F => ?_) rfl rfl rfl s E hx
  · simp at hx
    subst hx
    exact .inr ⟨rfl, rfl⟩
  · subst henv
    have G0 : Gl w s₀.heap := G.up hx0
    have hv0 : IsL (IsL IsI) lots v s₀.heap := mono_LL _ _ _ _ hx0 hv
    have hh' : (A.deeper (callEnvC (fdOf w.params 54) s₀.heap.objs.size 54)).handled = none := hh
    have hu' : (A.deeper (callEnvC (fdOf w.params 54) s₀.heap.objs.size 54)).units + 64 < cLine := by show A.units + 3 + 64 < cLine; omega
    refine wpAny_execs_cons (Assign_Tuple_swapped (names := [("many" : Str), ("found" : Str)]) ?_ rfl rfl)
    have elen : ∀ (s1 : Shared) m cm (pos p q : Pos), Fm s₀ (callEnvC (fdOf w.params 54) s₀.heap.objs.size 54) m cm s1 → cm "lots" = some v → Tr prog w (A.deeper (callEnvC (fdOf w.params 54) s₀.heap.objs.size 54)) s1.heap (eval (.Call (.Name "len" p) [.Name "lots" q] [] pos) (callEnvC (fdOf w.params 54) s₀.heap.objs.size 54)) (IsI lots.length) :=
      fun s1 m cm pos p q F1 hc => ev_callB ((G0.up F1.ext).bui rfl boot_len (by decide) rfl rfl rfl rfl) ((F1.rdc (x := "lots") rfl rfl hc).trP (Φ := IsL (IsL IsI) lots) fun h' e => mono_LL _ _ _ _ (F1.ext.trans e) hv0) fun v h' _ hv => tr_len hv (by omega)
    refine wpAny_Tuple_spliced (args_cons ((elen s _ _ _ _ _ F rfl).go (.refl _) fun v1 s1 hv1 g1 => args_cons (wpAny_mono ((evN_mulL mono_I (G0.up ((F.go g1).ext)).tab (ev_list1 mono_I ev_int rfl) (ev_add (elen s1 _ _ _ _ _ (F.go g1) rfl) ev_int) (by omega) (by omega)) s1 _ (.refl _)) (fun v2 s2 ⟨⟨hv2, D, eD, hD⟩, g2⟩ => args_nil ?_) fun _ _ e => e)))
    subst eD
    obtain ⟨t1, rfl⟩ := hv1
    refine ⟨by simp [sizeLine], ?_⟩
    have g3 : Go s2 { s2 with heap := s2.heap.push { cls := .type "tuple", data := .seq [Value.int lots.length t1, .ref D].toArray } } := .mk' (.push _ _)
    refine unpack2 hh' ⟨_, Heap.get?_push_size _ rfl, rfl, 0, rfl⟩ fun s4 g4 => ?_
    have F4 := F.go (((g1.trans g2).trans g3).trans g4)
    refine inOrder2 (wpAny_bindName (F4.store rfl fun s5 F5 hk5 => wpAny_bindName (F5.store rfl fun s6 F6 hk6 => ?_)))
    have hD0 : s₀.heap.get? D = none := fresh_back (F.go g1).ext G0.tab hD
    have hf6 : IsL IsI (foundUpTo lots 0) (.ref D) s6.heap := by
      have e0 : List.replicate ((lots.length : Int) + 1).toNat (0 : Int) = foundUpTo lots 0 := by rw [foundUpTo]; congr 1
      rw [← e0]
      exact ((g3.trans g4).ext.hd.trans ((F4.keepL hk5).trans (F5.keepL hk6))).ints hv2
    have pD6 : ∃ xs, s6.heap.PlainList D xs := by
      obtain ⟨l, vs, e1, p, _⟩ := hf6
      cases e1
      exact ⟨_, p⟩
    obtain ⟨N, hN⟩ : ∃ N, N = 2 ^ lots.length := ⟨_, rfl⟩
    have hp : (2 : Int) ^ (lots.length : Int).toNat = (N : Int) := by rw [Int.toNat_natCast, hN]; exact (Int.natCast_pow 2 _).symm
    have hb : N ≤ 16 := by rw [hN]; exact Nat.pow_le_pow_right (by decide) hl
    rw [← hN]
    refine wpAny_execs_cons (st_for (ev_callT ((G0.up F6.ext).bui rfl boot_range (by decide) rfl rfl rfl rfl) (ev_pow2 ev_int (F6.loc (x := "many") rfl rfl).trI (by omega) (by omega)) (fun v h' _ ⟨t, e⟩ => by
      subst e
      rw [hp]
      exact tr_range1 hh' (by omega) (by omega))) fun rv s7 hsrc g7 => ?_)
    have F7 := F6.go g7
    obtain ⟨hsrc, hr⟩ := hsrc
    refine for_core hsrc F7 (tgtC (x := "number") rfl rfl) [s₀.heap.objs.size, s₀.heap.objs.size + 1 + 1, s₀.heap.objs.size + 1 + 1 + 1, D] (fun b hb => ?_) (.head _) (.tail _ (.head _)) G0.tab
      (fun i m cm h => m "many" = some (.int lots.length t1) ∧ m "found" = some (.ref D) ∧ cm "lots" = some v ∧ IsL IsI (foundUpTo lots i) (.ref D) h) ?_ ⟨rfl, rfl, rfl, mono_LI _ _ _ _ g7.ext hf6⟩ ?_ ?_
    · obtain ⟨xs, pD⟩ := pD6
      simp only [List.mem_cons, List.not_mem_nil, or_false] at hb
      rcases hb with rfl | rfl | rfl | rfl
      · exact F7.vL _
      · exact F7.vC (n := "number") rfl _
      · exact F7.vC (n := "taken") rfl _
      · exact vD (g7.ext.plain pD) hr
    · rintro i m cm h h' ⟨q1, q2, q3, q4⟩ hk
      exact ⟨q1, q2, q3, (show Hd h h' from fun b o xs n d e => hk b o (fun vs q => by rw [d] at q; cases q) e).ints q4⟩
    · rintro i a u m cm s8 s9 hi ⟨tu, rfl⟩ km F8 ⟨q1, q2, q3, q4⟩ F9 k9
      obtain ⟨hiN, rfl⟩ := upFrom_get hi
      have e0 : (0 : Int) + (i : Int) = (i : Int) := by omega
      rw [e0] at F9
      have hv9 : IsL (LotIn s₀.heap) lots v s9.heap := lots_in F9.ext hv0
      have hf9 : IsL IsI (foundUpTo lots i) (.ref D) s9.heap := (F8.keepC (n := "number") rfl k9).ints q4
      refine wpAny_execs_cons (st_assignC (c := s₀.heap.objs.size + 1 + 1 + 1) F9 (Φ := IsL (LotIn s₀.heap) (takenOf lots i)) ?comp rfl rfl fun v s10 s11 hv10 g10 F11 hd11 k11 => ?_)
      case comp =>
        refine TrN.tr fun s E he => ?_
        refine ev_comp (R := IsI) (xs := upFrom 0 lots.length) (fun k => ((i : Int).fdiv (2 ^ k.toNat)).fmod 2 == 1) (fun k => (lots[k.toNat]?).getD []) (cl := [("number", s₀.heap.objs.size + 1 + 1), ("lots", s₀.heap.objs.size + 1)]) ?c1 ?c2 ?c3 ?c4 ?c5 (by simp [upFrom, sizeLine]; omega) (mono_LotIn _) (loc_LotIn _)
          (IsRng.src (ev_range1 ((G0.up F9.ext).bui rfl boot_range (by decide) rfl rfl rfl rfl) hh' (F9.loc (x := "many") rfl q1).trI (by omega))) ?c6 (G0.up F9.ext).tab ?c7 s E he
        case c1 => rfl
        case c2 => decide
        case c3 => rfl
        case c4 => decide
        case c5 => rfl
        case c7 => exact fun _ => rfl
        rintro k u C H hk eH ⟨tk, rfl⟩ ⟨mC, hC, hCk⟩
        obtain ⟨j, hj⟩ := List.mem_iff_getElem?.mp hk
        obtain ⟨hjl, rfl⟩ := upFrom_get hj
        have e1 : (0 : Int) + (j : Int) = (j : Int) := by omega
        rw [e1] at hCk ⊢
        have hj5 : j ≤ 10 := by omega
        obtain ⟨x, hx⟩ : ∃ x, lots[j]? = some x := ⟨_, List.getElem?_eq_getElem hjl⟩
        refine ⟨tests_one (tt_eq (ev_mod (ev_fdiv (Rd.trI (.cell _ rfl rfl rfl (eH.cell (show s9.heap.IsCell _ (some (.int (i : Int) tu)) from F9.cell "number" _ rfl)))) (ev_pow2 ev_int (Rd.trI (.loc mC rfl rfl hC hCk)) (by omega) (by omega)) ?_ ?_ ?_) ev_int (by decide)) ev_int), fun _ => ?_⟩
        · have := (pow_small hj5).1; rw [Int.toNat_natCast]; omega
        · have := (pow_small hj5).1; rw [Int.toNat_natCast]; omega
        · have := (pow_small hj5).2; rw [Int.toNat_natCast]; omega
        · rw [Int.toNat_natCast, hx]
          refine Tr.eltOld (hb := s₀.heap) ((ev_item (mono_LotIn s₀.heap) (xs := lots) (x := x) (Rd.trP (.cell _ rfl rfl rfl (eH.cell (show s9.heap.IsCell _ (some v) from q3 ▸ F9.cell "lots" _ rfl))) fun h' e' => mono_L (mono_LotIn _) _ _ _ _ (eH.trans e') hv9) (Rd.trI (.loc mC rfl rfl hC hCk)) (by omega) (by omega) (by simpa using hx)).mono fun v h' _ hv => ⟨hv, hv.2⟩) F9.ext
      · have ht11 : IsL (LotIn s₀.heap) (takenOf lots i) v s11.heap := hd11.lotsIn hv10
        have hf11 : IsL IsI (foundUpTo lots i) (.ref D) s11.heap := (g10.ext.hd.trans hd11).ints hf9
        have hlt := taken_le lots (i : Int)
        have hlf := found_len lots i
        refine wpAny_execs_cons (wpAny_AugAssign_SubscriptAny ((F11.loc (x := "found") rfl q2).wp (by decide) ((ev_callB ((G0.up F11.ext).bui rfl boot_len (by decide) rfl rfl rfl rfl) ((F11.rdc (x := "taken") rfl rfl rfl).trP (Φ := IsL (LotIn s₀.heap) (takenOf lots i)) fun h' e => mono_L (mono_LotIn _) _ _ _ _ e ht11) fun v h' _ hv => tr_len hv (by omega)).go (.refl _) fun iv s12 hiv g12 => ?_)))
        obtain ⟨ti, rfl⟩ := hiv
        obtain ⟨l, vs, e1, pD, qD⟩ := mono_LI _ _ _ _ g12.ext hf11
        cases e1
        obtain ⟨x, hx⟩ : ∃ x, (foundUpTo lots i)[(takenOf lots i).length]? = some x := ⟨_, List.getElem?_eq_getElem (by omega)⟩
        obtain ⟨_, hvx, ⟨tx, rfl⟩⟩ := qD.get hx
        refine wpAny_getItem_list pD.isList (by omega) (by omega) (by simpa using hvx) ?_
        have F12 := F11.go g12
        have ht12 := mono_L (mono_LotIn _) _ _ _ _ g12.ext ht11
        refine Tr.go (Φ := IsI (cntOf (takenOf lots i))) (h := s12.heap) ?cnt (.refl _) fun cv s13 hcv g13 => ?_
        case cnt =>
          have hlen10 : ((upFrom 0 10).filter (inAll (takenOf lots i))).length ≤ 10 := Nat.le_trans (List.length_filter_le _ _) (by simp [upFrom])
          refine ev_callB (Φ := IsL IsI (((upFrom 0 10).filter (inAll (takenOf lots i))).map id)) ((G0.up F12.ext).bui rfl boot_len (by decide) rfl rfl rfl rfl) (TrN.tr fun s E he => ?_) fun v h' _ hv => (tr_len hv (by rw [List.length_map]; omega)).mono fun v h' _ hv => ?_
          · refine ev_compCell (R := IsI) (xs := upFrom 0 10) (inAll (takenOf lots i)) id (cl := [("taken", s₀.heap.objs.size + 1 + 1 + 1)]) ?d1 ?d2 ?d3 ?d4 ?d5 ?d6 (by simp [upFrom, sizeLine]) mono_I loc_I
              (IsRng.src (ev_range1 ((G0.up F12.ext).bui rfl boot_range (by decide) rfl rfl rfl rfl) hh' ev_int (by omega))) ?d7 (G0.up F12.ext).tab ?d8 s E he
            case d1 => rfl
            case d2 => exact fun _ _ => rfl
            case d3 => exact fun _ => rfl
            case d4 => rfl
            case d5 => decide
            case d6 => exact fun _ _ => rfl
            case d8 => exact fun _ => rfl
            rintro t u C c H ht eH ⟨tt, rfl⟩ _ hc
            obtain ⟨j, hj⟩ := List.mem_iff_getElem?.mp ht
            obtain ⟨hj10, rfl⟩ := upFrom_get hj
            have e1 : (0 : Int) + (j : Int) = (j : Int) := by omega
            rw [e1] at hc ⊢
            refine ⟨tests_one (tt_cmp (Ψ := IsL (LotIn s₀.heap) []) (Φ := IsL (LotIn s₀.heap) (((takenOf lots i).filter fun lot => (lot[((j : Int)).toNat]?).getD 0 == 0).map id)) (TrN.tr fun s E he => ?_) (fun _ _ => ev_nil) (fun u v h' h'' _ e2 hu hv => ?_) rfl), fun _ => ?_⟩
            · refine ev_comp (R := LotIn s₀.heap) (xs := takenOf lots i) (fun lot => (lot[((j : Int)).toNat]?).getD 0 == 0) id (cl := [("thing", c)]) ?f1 ?f2 ?f3 ?f4 ?f5 (by simp [sizeLine]; omega) (mono_LotIn _) (loc_LotIn _)
                ((Rd.trP (.cell _ rfl rfl rfl (eH.cell (show s12.heap.IsCell _ (some v) from F12.cell "taken" _ rfl))) fun h' e' => mono_L (mono_LotIn _) _ _ _ _ (eH.trans e') ht12).mono fun v h' _ hv => IsSrc.list (mono_LotIn _) hh' hv) ?f6 (((G0.up F12.ext).up eH)).tab ?f7 s E he
              case f1 => rfl
              case f2 => decide
              case f3 => rfl
              case f4 => decide
              case f5 => rfl
              case f7 => exact fun _ => rfl
              rintro lot u C2 H2 hm eH2 hlot ⟨mC, hC, hCk⟩
              have h10' : lot.length = 10 := h10 _ (taken_mem hm)
              obtain ⟨x, hx⟩ : ∃ x, lot[((j : Int)).toNat]? = some x := ⟨_, List.getElem?_eq_getElem (by rw [Int.toNat_natCast]; omega)⟩
              refine ⟨tests_one ((tt_eq (ev_item mono_I (xs := lot) (x := x) (Rd.trP (.loc mC rfl rfl hC hCk) fun h' e' => mono_LI _ _ _ _ e' hlot.1) (Rd.trI (.cell _ rfl rfl rfl (eH2.cell hc))) (by omega) (by omega) hx) ev_int).mono fun v h' _ hv => ?_), fun _ => ?_⟩
              · rw [hx]; exact hv
              · exact Tr.eltOld (hb := s₀.heap) ((Rd.trP (.loc mC rfl rfl hC hCk) fun h' e' => mono_LotIn _ _ _ _ _ e' hlot).mono fun v h' _ hv => ⟨hv, hv.2⟩) (((F12.ext).trans eH))
            · rw [List.map_id] at hu
              exact tr_eqNil hu' (mono_L (mono_LotIn _) _ _ _ _ e2 hu) hv
            · exact Tr.eltI (Rd.trI (.cell _ rfl rfl rfl hc))
          · rw [List.length_map] at hv
            exact hv
        obtain ⟨tc, rfl⟩ := hcv
        refine PyProof.Rows.iadd_int ?_
        have pD13 := g13.ext.plain pD
        have hlen : vs.length = lots.length + 1 := by rw [qD.length, hlf]
        refine set_plain (s := { s13 with toks := s13.toks + 1 }) pD13 (by omega) (by omega) (by omega) fun h14 p14 k14 => ?_
        have F13 := (F12.go g13).go (Go.tok (tk := s13.toks + 1))
        have F14 := F13.step (V := [D]) (tk := s13.toks + 1) (fun b hb => by
          simp at hb; subst hb
          exact ⟨hD0, F13.neLD pD13, fun n c hc => F13.neCD pD13 n c hc, noRec_plain pD13⟩) fun b o hb e => k14 b o (by simpa using hb) e
        refine wpAny_execs_nil (.inl ⟨rfl, ⟨_, _, F14, q1, q2, q3, ?_⟩, ?_⟩)
        · refine ⟨D, _, rfl, p14, ?_⟩
          have e3 : foundUpTo lots (i + 1) = (foundUpTo lots i).set (((takenOf lots i).length : Int)).toNat (x + cntOf (takenOf lots i)) := by
            rw [foundUpTo, hx]; rfl
          rw [e3]
          exact All2.imp (h := s12.heap) (R := IsI) (fun _ _ y => y) (qD.set (a := x + (cntOf (takenOf lots i) : Int)) ⟨s13.toks, rfl⟩ _)
        · refine ((g10.ext.km.trans (.of_but (a := s₀.heap.objs.size + 1 + 1 + 1) (by simp) k11)).trans (g12.trans g13).ext.km).trans ?_
          exact .of_but (a := D) (by simp) k14
    · rintro m' cm' s' F' ⟨_, q2, _, q4⟩ _
      rw [upFrom_len, Int.toNat_natCast] at q4
      exact wpAny_execs_cons (st_ret (F'.loc (x := "found") rfl q2).tr fun v s6 hv g6 => by
        have hv : v = .ref D := hv
        subst hv
        exact ⟨⟨mono_LI _ _ _ _ g6.ext q4, D, rfl, hD0⟩, (F'.go g6).Go⟩)
end


/-- all but some objects stay; the tables may turn -/
structure ExV (V : List Addr) (h h' : Heap) : Prop where
  keep : ∀ b o, b ∉ V → (b = 30 ∨ b = 37 → Solid o) → h.get? b = some o → h'.get? b = some o
  tab : TabS h → TabS h'
theorem Ext.exv {V : List Addr} {h h' : Heap} (x : Ext h h') : ExV V h h' := ⟨fun b o _ q e => x.keep b o q e, x.tab⟩
theorem ExV.trans {V : List Addr} {h h' h'' : Heap} (x : ExV V h h') (y : ExV V h' h'') : ExV V h h'' := ⟨fun b o n q e => y.keep b o n q (x.keep b o n q e), fun t => y.tab (x.tab t)⟩
theorem ExV.nil {h h' : Heap} (x : ExV [] h h') : Ext h h' := ⟨fun b o q e => x.keep b o (by simp) q e, x.tab⟩
theorem ExV.back {V : List Addr} {hb h h' : Heap} (E : Ext hb h) (x : ExV V h h') (hf : ∀ b ∈ V, hb.get? b = none) : Ext hb h' :=
  ⟨fun b o q e => x.keep b o (fun hm => by rw [hf b hm] at e; cases e) q (E.keep b o q e), fun t => x.tab (E.tab t)⟩
theorem ExV.km {V : List Addr} {h h' : Heap} (x : ExV V h h') : KM V h h' := fun b o n s e => x.keep b o n (fun _ => s) e
theorem ExV.step {V W : List Addr} {hb H H' : Heap} (E : ExV V hb H) (hf : ∀ b ∈ W, hb.get? b = none) (hV : ∀ b ∈ W, ∀ q, ¬ H.CodeRec (.ref b) q) (hk : ∀ b o, b ∉ W → H.get? b = some o → H'.get? b = some o) : ExV V hb H' := by
  refine ⟨fun b o n q e => hk b o (fun hm => by rw [hf b hm] at e; cases e) (E.keep b o n q e), fun t => ?_⟩
  have t' := E.tab t
  have ne : ∀ b ∈ W, b ≠ 30 ∧ b ≠ 37 ∧ b ≠ 34 ∧ b ≠ 41 := fun b hb => t.ne (hf b hb)
  exact ⟨t'.1.step (fun m => (ne _ m).2.2.1 rfl) (fun m => (ne _ m).1 rfl) hV hk, t'.2.step (fun m => (ne _ m).2.2.2 rfl) (fun m => (ne _ m).2.1 rfl) hV hk⟩
theorem ExV.set {V : List Addr} {D : Addr} {h h' : Heap} (hD : D ∈ V) (ne : D ≠ 30 ∧ D ≠ 37 ∧ D ≠ 34 ∧ D ≠ 41) (hr : ∀ q, ¬ h.CodeRec (.ref D) q) (hk : ∀ b o, b ≠ D → h.get? b = some o → h'.get? b = some o) : ExV V h h' :=
  have hk' : ∀ b o, b ∉ [D] → h.get? b = some o → h'.get? b = some o := fun b o n e => hk b o (by simpa using n) e
  have hr' : ∀ b ∈ [D], ∀ q, ¬ h.CodeRec (.ref b) q := fun b hb => by simp at hb; subst hb; exact hr
  ⟨fun b o n _ e => hk b o (fun q => n (q ▸ hD)) e, fun t => ⟨t.1.step (fun m => ne.2.2.1 (by simp at m; exact m.symm)) (fun m => ne.1 (by simp at m; exact m.symm)) hr' hk', t.2.step (fun m => ne.2.2.2 (by simp at m; exact m.symm)) (fun m => ne.2.1 (by simp at m; exact m.symm)) hr' hk'⟩⟩

/-- the state goes on -/
def To (s s' : Shared) : Prop := ∃ h' tk, s' = { s with heap := h', toks := tk }
theorem To.trans {s s' s'' : Shared} (x : To s s') (y : To s' s'') : To s s'' := by
  obtain ⟨h', tk, rfl⟩ := x
  obtain ⟨h'', tk', rfl⟩ := y
  exact ⟨h'', tk', rfl⟩
theorem Go.to {s s' : Shared} (x : Go s s') : To s s' := let ⟨h', tk, e, _⟩ := x; ⟨h', tk, e⟩
theorem To.go {s s' : Shared} (x : To s s') (e : Ext s.heap s'.heap) : Go s s' := by obtain ⟨h', tk, rfl⟩ := x; exact ⟨h', tk, rfl, e⟩

theorem Fm.exv {s₀ s s' : Shared} {env : Env} {m cm : Str → Option Value} (F : Fm s₀ env m cm s) (g : To s s') {V : List Addr} (x : ExV V s.heap s'.heap) (hf : ∀ b ∈ V, s₀.heap.get? b = none) (hL : env.locals ∉ V) (hC : ∀ n c, env.cells.lookup n = some c → c ∉ V) : Fm s₀ env m cm s' := by
  obtain ⟨h', tk, rfl⟩ := g
  obtain ⟨h₁, tk₁, rfl⟩ := F.same
  obtain ⟨o, es, ep, e, hd, r⟩ := F.ns
  refine ⟨⟨h', tk, rfl⟩, x.back F.ext hf, ⟨o, es, ep, x.keep _ _ hL (fun _ => solid_dict hd) e, hd, r⟩, fun n c hc => ?_, F.fresh, F.cfresh, F.apart, F.kind⟩
  obtain ⟨o, e, hd⟩ := F.cell n c hc
  exact ⟨o, x.keep _ _ (hC n c hc) (fun _ => solid_cell hd) e, hd⟩

/-- the frame of an inner function -/
structure Fk (V : List Addr) (s₀ : Shared) (env : Env) (m : Str → Option Value) (s : Shared) : Prop where
  to : To s₀ s
  ext : ExV V s₀.heap s.heap
  ns : s.heap.Ns env.locals m
  fresh : s₀.heap.get? env.locals = none
  out : env.locals ∉ V
  kind : env.scope.kind = .function
namespace Fk
variable {V : List Addr} {s₀ s s' : Shared} {env : Env} {m : Str → Option Value}
theorem go (F : Fk V s₀ env m s) (g : Go s s') : Fk V s₀ env m s' := ⟨F.to.trans g.to, F.ext.trans g.ext.exv, g.ext.ns F.ns, F.fresh, F.out, F.kind⟩
theorem exv (F : Fk V s₀ env m s) (g : To s s') (x : ExV V s.heap s'.heap) : Fk V s₀ env m s' :=
  let ⟨o, es, ep, e, hd, r⟩ := F.ns
  ⟨F.to.trans g, F.ext.trans x, ⟨o, es, ep, x.keep _ _ F.out (fun _ => solid_dict hd) e, hd, r⟩, F.fresh, F.out, F.kind⟩
theorem loc (F : Fk V s₀ env m s) {x : Str} {v : Value} (hx : env.kindOf x = some .local) (hv : m x = some v) : Rd env x v s.heap := .loc m F.kind hx F.ns hv
theorem store (F : Fk V s₀ env m s) {M : Model} {A : Around} {E : Value → Shared → Prop} {x : Str} {v : Value} {Q : Unit → Shared → Prop} (hx : env.kindOf x = some .local)
    (k : ∀ s', Fk V s₀ env (upd m x v) s' → (∀ b o, b ≠ env.locals → s.heap.get? b = some o → s'.heap.get? b = some o) → Q () s') : wpAny M A (storeName env x v) Q E s := by
  refine wpAny_storeName_local hx F.ns (fun h' hn hs => k _ ?_ fun b o hb e => hs.extBut b o hb e) (by rw [F.kind]; rfl)
  exact ⟨F.to.trans ⟨h', s.toks + 1, rfl⟩, F.ext.step (W := [env.locals]) (fun b hb => by simp at hb; subst hb; exact F.fresh) (fun b hb q => by simp at hb; subst hb; exact noRec_ns F.ns q) fun b o hb e => hs.extBut b o (by simpa using hb) e, hn, F.fresh, F.out, F.kind⟩
theorem keepL (F : Fk V s₀ env m s) {h' : Heap} (hk : ∀ b o, b ≠ env.locals → s.heap.get? b = some o → h'.get? b = some o) : Hd s.heap h' := fun b o xs n d e => hk b o (by
  rintro rfl
  obtain ⟨o', es, ep, g, hd, _⟩ := F.ns
  rw [e] at g; cases g
  rw [d] at hd; cases hd) e
end Fk

section
variable {prog : Program} {w : World} {A : Around} {E : Value → Shared → Prop} {s₀ s : Shared} {env : Env} {m : Str → Option Value} {V : List Addr} {Q : Flow → Shared → Prop} {pos : Pos}

theorem sk_assign {x : Str} {px pos : Pos} {e : PySem.Expr} {Φ : Value → Heap → Prop} (F : Fk V s₀ env m s) (he : Tr prog w A s.heap (eval e env) Φ) (hx : env.kindOf x = some .local)
    (k : ∀ v s' s'', Φ v s'.heap → Go s s' → Fk V s₀ env (upd m x v) s'' → Hd s'.heap s''.heap → (∀ b o, b ≠ env.locals → s'.heap.get? b = some o → s''.heap.get? b = some o) → Q .next s'')
    (hs : swapsWith e (some (.Name x px)) pos.line env = pure false := by rfl) : wpAny (model prog w) A (exec (.Assign [.Name x px] e pos) env) Q E s :=
  wpAny_Assign_Name (he.go (.refl _) fun v s' hv g => (F.go g).store hx fun s'' F'' hk => k v s' s'' hv g F'' ((F.go g).keepL hk) hk) hs

theorem call_clo {a : Addr} {o : Obj} {fd : FuncData} {body : List Stmt} {vals : List Value} {binds : List (Str × Value)} {P : Value → Shared → Prop}
    (hA : A.depth < recursionLimit) (ho : s.heap.get? a = some o) (hd : o.data = .func fd) (hlim : s.heap.NoLimit) (hcd : s.heap.CodeRec fd.code fd.qualname) (hV : ∀ b ∈ V, b < s.heap.objs.size) (hbody : fd.body = .stmts body) (hbind : bindArgs fd ⟨vals, []⟩ = pure binds)
    (hc : ∀ x ∈ fd.scope.names, x.2 ≠ .cell) (hl : ∀ x ∈ binds, fd.scope.names.lookup x.1 = some .local)
    (run : ∀ (s₁ : Shared) (env : Env), env = newEnv fd.scope s.heap.objs.size fd.globals fd.closure (fd.qualname ++ ".<locals>.") (some a) fd.code none fd.builtins → Fk V s env (fun x => binds.reverse.lookup x) s₁ → s₁.heap.NoLimit → (∀ b o, s.heap.get? b = some o → s₁.heap.get? b = some o) →
      wpAny (model prog w) (A.deeper env) (execs body env) (fun f s' => P (rv f) s') (fun _ _ => False) s₁)
    (hco : fd.scope.isCoroutine = false := by rfl) (hgen : fd.scope.isGenerator = false := by rfl) (hk : fd.scope.kind = .function := by rfl) :
    wpAny (model prog w) A (call (.ref a) vals) P E s := by
  refine wpAny_call (codeAny_call_function hA ho hd hco hgen hbody hcd ?_)
  rw [hbind]
  refine wpAny_pure (wpAny_newFunctionEnv hc hl (fun h' hn hs => ?_) hk)
  have keep : ∀ b o, s.heap.get? b = some o → h'.get? b = some o := fun b o e => hs.extBut b o (Nat.ne_of_lt (Heap.lt_size e)) (Heap.get?_push_of_some _ e)
  have hlim' := hlim.keeps keep
  refine ⟨hlim', codeAny_func ?_⟩
  refine wpAny_mono (run { s with heap := h', toks := s.toks + binds.length } _ rfl ⟨⟨h', _, rfl⟩, (Ext.of_keep keep).exv, hn, get_none (Nat.le_refl _), fun hm => Nat.lt_irrefl _ (hV _ hm), hk⟩ hlim' keep) (fun f s' hp => ?_) fun _ _ f => f.elim
  cases f <;> exact hp

theorem ev_callF3 {f : Str} {a : Addr} {o : Obj} {fd : FuncData} {p pos : Pos} {e1 e2 e3 : PySem.Expr} {Φ1 Φ2 Φ3 : Value → Heap → Prop} {Q : Value → Shared → Prop} (rf : Rd env f (.ref a) s.heap) (ho : s.heap.get? a = some o) (hd : o.data = .func fd)
    (h1 : Tr prog w A s.heap (eval e1 env) Φ1) (h2 : ∀ h', Ext s.heap h' → Tr prog w A h' (eval e2 env) Φ2) (h3 : ∀ h', Ext s.heap h' → Tr prog w A h' (eval e3 env) Φ3)
    (hc : ∀ v1 v2 v3 s1 s2 s3, Go s s1 → Go s1 s2 → Go s2 s3 → Φ1 v1 s1.heap → Φ2 v2 s2.heap → Φ3 v3 s3.heap → wpAny (model prog w) A (call (.ref a) [v1, v2, v3]) Q E s3)
    (hs : starEach [e1, e2, e3] env = (false, eval e1 env) :: starEach [e2, e3] env := by rfl) (hs2 : starEach [e2, e3] env = (false, eval e2 env) :: starEach [e3] env := by rfl) (hs3 : starEach [e3] env = [(false, eval e3 env)] := by rfl) (hdb : (f == ("__debug__" : Str)) = false := by decide) :
    wpAny (model prog w) A (eval (.Call (.Name f p) [e1, e2, e3] [] pos) env) Q E s :=
  Call_ (rf.wp hdb (callWith_def hd (args_cons (h1.go (.refl _) fun v1 s1 hv1 g1 => args_cons ((h2 _ g1.ext).go (.refl _) fun v2 s2 hv2 g2 => args_cons ((h3 _ (g1.trans g2).ext).go (.refl _) fun v3 s3 hv3 g3 => args_nil ⟨((g1.trans g2).trans g3).ext.solid (solid_func hd) ho, hc _ _ _ _ _ _ g1 g2 g3 hv1 hv2 hv3⟩) hs3) hs2) hs) hs))

theorem tt_int {e : PySem.Expr} {h : Heap} {a : Int} (he : Tr prog w A h (eval e env) (IsI a)) (hp : isTrue e env (eval e env) = (do let v ← eval e env; standAt e.pos; holding [v] (truthy v)) := by rfl) : Tr prog w A h (isTrue e env (eval e env)) (Is (a != 0)) := fun _ _ hx =>
  isTrue_plain (he.go hx fun u s1 ⟨t, e⟩ g1 => by subst e; exact PyProof.Rows.truthy_int ⟨rfl, g1⟩) hp
theorem tt_list {α : Type} {R : α → Value → Heap → Prop} {e : PySem.Expr} {h : Heap} {xs : List α} (hsz : xs.length ≤ 1000000) (he : Tr prog w A h (eval e env) (IsL R xs)) (hp : isTrue e env (eval e env) = (do let v ← eval e env; standAt e.pos; holding [v] (truthy v)) := by rfl) : Tr prog w A h (isTrue e env (eval e env)) (Is (!xs.isEmpty)) := fun _ _ hx =>
  isTrue_plain (he.go hx fun u s1 ⟨l, vs, e, p, q⟩ g1 => by
    subst e
    have e1 := q.length
    refine wpAny_truthy_list p.isList (by simp; omega) ⟨?_, g1.trans .tok⟩
    show (!vs.toArray.isEmpty) = !xs.isEmpty
    cases q <;> rfl) hp

/-! a def within a body -/
structure Gm (w : World) (h : Heap) : Prop where
  gl : Gl w h
  bm : ∃ mg, h.Ns mainGlobals mg ∧ ∃ bm ob, mg "__builtins__" = some (.ref bm) ∧ bm ≠ builtinsNs ∧ bm ≠ mainGlobals ∧ h.get? bm = some ob ∧ ob.cls = .type "module" ∧ ob.dict = some builtinsNs ∧ ob.data = .plain
theorem Gm.up {w : World} {h h' : Heap} (G : Gm w h) (e : Ext h h') : Gm w h' :=
  ⟨G.gl.up e, let ⟨mg, g, bm, ob, b1, b2, b3, b4, b5, r⟩ := G.bm; ⟨mg, e.ns g, bm, ob, b1, b2, b3, e.solid (solid_cls (by rw [b5]; nofun)) b4, b5, r⟩⟩

theorem get_ne {h : Heap} {b P : Addr} {o o' : Obj} (e : h.get? b = some o) (e' : h.get? P = some o') (hn : o ≠ o') : b ≠ P := fun q => by
  subst q
  rw [e] at e'; cases e'
  exact hn rfl

theorem made {name qual q0 : Str} {params : Arguments} {body : List Stmt} {scope : Scope} {dpos : Pos} {fl : Nat} {clos : List (Str × Addr)} {c P : Addr} {l k : Int} {Q : Value → Shared → Prop} (G : Gm w s.heap) (T : TabP s.heap c P l k q0) (hq : qual = q0) (hcl : closureFor scope env = pure clos) (hge : env.globals = mainGlobals) (hcode : env.code = .ref c)
    (hl : (dpos.line : Int) = l) (hk : (dpos.col : Int) = k)
    (h : ∀ f c' doc pm ctv h' tk, s.heap.get? f = none → h'.get? f = some { cls := .type "function", data := .func (fnX name q0 params body scope clos .none .none doc pm none (.ref c') ctv) } → h'.CodeRec (.ref c') q0 → c' ≠ 30 → c' ≠ 37 →
      (∀ b o, b ≠ P → s.heap.get? b = some o → h'.get? b = some o) → (∃ ps, s.heap.get? P = some (tabObj ps)) → TabP h' c P l k q0 → Q (.ref f) { s with heap := h', toks := tk }) :
    wpAny (model prog w) A (makeFunction name qual params (.stmts body) scope env [] [] [] dpos fl) Q E s := by
  subst hq
  obtain ⟨mg, g, bm, ob, b1, b2, b3, b4, b5, b6, b7⟩ := G.bm
  have T' := T
  obtain ⟨hc, hs, ps, hp, hr⟩ := T
  have hbP : bm ≠ P := get_ne b4 hp (fun q => by rw [q] at b5; cases b5)
  have hcP : c ≠ P := by obtain ⟨o, vs, file, tf, flags, tg, inF, text, tt, e1, r1, r2, r3, r4, r5, r6, r7, r8, hne⟩ := hc; exact hne
  have hgP : mainGlobals ≠ P := by
    obtain ⟨o, es, ep, e, hd, _⟩ := id g
    exact get_ne e hp (fun q => by rw [q] at hd; cases hd)
  have hB : s.heap.BuiltinsAt mg P := ⟨bm, ob, b1, b2, b3, hbP, b4, b5, b6, b7⟩
  rcases hr with rfl | ⟨c', rfl, n1, n2, rec⟩
  · refine makeFunction_K hcl hge g hcode hc hp trivial rfl hgP hB fun c' ctv doc h' tk hx hge hlt hrec htb => ?_
    have old : ∀ b o, b ≠ P → s.heap.get? b = some o → (h'.push (fnMade name qual params body scope clos doc ((mg "__name__").getD .none) c' ctv)).get? b = some o := fun b o hb e => Heap.get?_push_of_some _ (hx b o hb e)
    have ne : c' ≠ 30 ∧ c' ≠ 37 := by
      have t := G.gl.tab.ne (b := c') (get_none hge)
      exact ⟨t.1, t.2.1⟩
    refine h h'.objs.size c' doc _ ctv _ _ (get_none (Nat.le_of_lt (Nat.lt_of_le_of_lt hge hlt))) (Heap.get?_push_size _ rfl) (hrec.push _) ne.1 ne.2 old ⟨_, hp⟩ ?_
    obtain ⟨o, vs, file, tf, flags, tg, inF, text, tt, e1, r⟩ := id hc
    refine ⟨⟨o, vs, file, tf, flags, tg, inF, text, tt, old _ _ hcP e1, r⟩, fun o' e' => ?_, _, Heap.get?_push_of_some _ htb, .inr ⟨c', ?_, ne.1, ne.2, hrec.push _⟩⟩
    · rw [old _ _ hcP e1] at e'; cases e'
      exact hs _ e1
    · show #[rawInt dpos.line, rawInt dpos.col, .ref c'] = _
      rw [hl, hk]
  · have hf : codeAmong dpos (#[rawInt l, rawInt k, .ref c'] : Array Value).toList = some (.ref c') := by
      subst hl; subst hk
      simp [codeAmong, rawInt]
    refine makeFunction_hit hcl hge g hcode hc hp trivial hf hB fun ctv doc h' tk hkp hsz => ?_
    have old : ∀ b o, s.heap.get? b = some o → (h'.push { cls := .type "function", data := .func (fnX name qual params body scope clos .none .none doc ((mg "__name__").getD .none) none (.ref c') ctv) }).get? b = some o := fun b o e => Heap.get?_push_of_some _ (hkp b o e)
    refine h h'.objs.size c' doc _ ctv _ _ (get_none hsz) (Heap.get?_push_size _ rfl) (rec.keeps old) n1 n2 (fun b o _ e => old b o e) ⟨_, hp⟩ (T'.keeps old)
end


noncomputable def defOf : Stmt → Arguments × List Stmt × Scope
  | .FunctionDef _ a b _ _ _ sc _ _ _ => (a, b, sc)
  | _ => (default, [], default)
noncomputable def d35 (P : Params) : Arguments × List Stmt × Scope := match (fdOf P 35).body with
  | .stmts (_ :: d :: _) => defOf d
  | _ => (default, [], default)
noncomputable abbrev fn35 (P : Params) (cl : List (Str × Addr)) (doc pm : Value) (c' : Addr) (ctv : Value) : FuncData := fnX "inner" "_int2digits.<locals>.inner" (d35 P).1 (d35 P).2.1 (d35 P).2.2 cl .none .none doc pm none (.ref c') ctv

theorem nc35 (P : Params) : ∀ x ∈ (d35 P).2.2.names, x.2 ≠ .cell := fun x hx => by
  have h : (d35 P).2.2.names.all (fun x => x.2 != .cell) = true := rfl
  have := List.all_eq_true.mp h x hx
  simpa using this
structure In35 (w : World) (f D cD cI cN : Addr) (h : Heap) : Prop where
  fn : ∃ doc pm c' ctv, h.get? f = some { cls := .type "function", data := .func (fn35 w.params [("n", cN), ("inner", cI), ("a_digits", cD)] doc pm c' ctv) } ∧ h.CodeRec (.ref c') "_int2digits.<locals>.inner" ∧ c' ≠ 30 ∧ c' ≠ 37
  lim : h.NoLimit
  d : h.IsCell cD (some (.ref D))
  i : h.IsCell cI (some (.ref f))
  n : ∃ t, h.IsCell cN (some (.int 1 t))
  ne : D ≠ 30 ∧ D ≠ 37 ∧ D ≠ 34 ∧ D ≠ 41

theorem ExV.oth {D : Addr} {xs : Array Value} {h h' : Heap} (x : ExV [D] h h') (p : h.PlainList D xs) {b : Addr} {o : Obj} (hn : ∀ xs n, o.data ≠ .seq xs n) (hs : b = 30 ∨ b = 37 → Solid o) (e : h.get? b = some o) : h'.get? b = some o := by
  obtain ⟨n, e'⟩ := p
  exact x.keep b o (by simp; exact get_ne e e' fun q => by rw [q] at hn; exact hn _ _ rfl) hs e
theorem In35.exv {w : World} {f D cD cI cN : Addr} {h h' : Heap} {xs : Array Value} (I : In35 w f D cD cI cN h) (p : h.PlainList D xs) (x : ExV [D] h h') : In35 w f D cD cI cN h' := by
  obtain ⟨⟨doc, pm, c', ctv, e, ⟨c₂, o₂, vs₂, t₂, e₂, g₂, d₂, r₂⟩, n1, n2⟩, ⟨mc, ⟨o, es, ep, e3, d3, r3⟩, hm⟩, ⟨o4, e4, d4⟩, ⟨o5, e5, d5⟩, ⟨t, o6, e6, d6⟩, ne⟩ := I
  cases e₂
  exact ⟨⟨doc, pm, c', ctv, x.oth p (by nofun) (fun _ => solid_func rfl) e, ⟨_, o₂, vs₂, t₂, rfl, x.oth p (by rw [d₂]; nofun) (fun q => (q.elim n1 n2).elim) g₂, d₂, r₂⟩, n1, n2⟩, ⟨mc, ⟨o, es, ep, x.oth p (by rw [d3]; nofun) (fun _ => solid_dict d3) e3, d3, r3⟩, hm⟩,
    ⟨o4, x.oth p (by rw [d4]; nofun) (fun _ => solid_cell d4) e4, d4⟩, ⟨o5, x.oth p (by rw [d5]; nofun) (fun _ => solid_cell d5) e5, d5⟩, ⟨t, o6, x.oth p (by rw [d6]; nofun) (fun _ => solid_cell d6) e6, d6⟩, ne⟩

def bitN (X k : Nat) : Int := ((X / 2 ^ k % 2 : Nat) : Int)
def setBits (ds : List Int) (X L : Nat) : Nat → List Int
  | 0 => ds
  | k + 1 => (setBits ds X L k).set (L + k) (bitN X k)
theorem setBits_len (ds : List Int) (X L : Nat) : ∀ k, (setBits ds X L k).length = ds.length
  | 0 => rfl
  | k + 1 => by rw [setBits, List.length_set, setBits_len ds X L k]
theorem bitN_low {X k i : Nat} (h : i < k) : bitN (X % 2 ^ k) i = bitN X i := by
  unfold bitN
  rw [← Nat.toNat_testBit, ← Nat.toNat_testBit, Nat.testBit_mod_two_pow]
  simp [h]
theorem bitN_high (X m k : Nat) : bitN (X / 2 ^ m) k = bitN X (m + k) := by
  unfold bitN
  rw [Nat.div_div_eq_div_mul, ← Nat.pow_add]
theorem setBits_low (ds : List Int) (X L k : Nat) : ∀ m, m ≤ k → setBits ds (X % 2 ^ k) L m = setBits ds X L m
  | 0, _ => rfl
  | m + 1, h => by rw [setBits, setBits, setBits_low ds X L k m (by omega), bitN_low (by omega)]
theorem setBits_join (ds : List Int) (X L m : Nat) : ∀ k, setBits (setBits ds X L m) (X / 2 ^ m) (L + m) k = setBits ds X L (m + k)
  | 0 => rfl
  | k + 1 => by
    rw [setBits, setBits_join ds X L m k, bitN_high, ← Nat.add_assoc, setBits, Nat.add_assoc L]
theorem and_high (X m : Nat) : X &&& (X / 2 ^ m * 2 ^ m) = X / 2 ^ m * 2 ^ m := by
  apply Nat.eq_of_testBit_eq
  intro i
  rw [Nat.testBit_and, ← Nat.shiftRight_eq_div_pow, ← Nat.shiftLeft_eq, Nat.testBit_shiftLeft, Nat.testBit_shiftRight]
  by_cases h : m ≤ i
  · rw [Nat.add_sub_cancel' h]
    simp [h]
  · simp [h]
theorem xor_small (X m : Nat) : Builtin.bitXor (X : Int) (((X / 2 ^ m : Nat) : Int) * 2 ^ m) = ((X % 2 ^ m : Nat) : Int) := by
  have e : (((X / 2 ^ m : Nat) : Int) * 2 ^ m) = ((X / 2 ^ m * 2 ^ m : Nat) : Int) := by
    rw [Int.natCast_mul, Int.natCast_pow]; rfl
  have ha : Builtin.bitAnd (X : Int) ((X / 2 ^ m * 2 ^ m : Nat) : Int) = ((X / 2 ^ m * 2 ^ m : Nat) : Int) := by
    unfold Builtin.bitAnd
    rw [decide_eq_true (Int.natCast_nonneg X), decide_eq_true (Int.natCast_nonneg _)]
    show ((((X : Int)).toNat &&& (((X / 2 ^ m * 2 ^ m : Nat) : Int)).toNat : Nat) : Int) = _
    rw [Int.toNat_natCast, Int.toNat_natCast, and_high]
  rw [e, bitXor_and, ha]
  have := Nat.div_add_mod X (2 ^ m)
  rw [Nat.mul_comm] at this
  omega

theorem fdiv2 (a : Nat) : ((a : Int)).fdiv (2 ^ (1 : Int).toNat) = ((a / 2 : Nat) : Int) := by
  rw [Int.fdiv_eq_ediv_of_nonneg]
  · rfl
  · decide
theorem fdivp (a m : Nat) : ((a : Int)).fdiv (2 ^ m) = ((a / 2 ^ m : Nat) : Int) := by
  rw [Int.fdiv_eq_ediv_of_nonneg]
  · rw [Int.natCast_ediv, Int.natCast_pow]; rfl
  · exact Int.le_of_lt (Int.pow_pos (by decide))

section
variable {prog : Program} {w : World}
theorem bind35i (P : Params) (cl : List (Str × Addr)) (doc pm : Value) (c' : Addr) (ctv a b c : Value) : bindArgs (fn35 P cl doc pm c' ctv) ⟨[a, b, c], []⟩ = pure [(("x" : Str), a), (("L" : Str), b), (("R" : Str), c)] := rfl

theorem inner35 {f D cD cI cN : Addr} : ∀ k : Nat, 1 ≤ k → k ≤ 10 → ∀ (A : Around) (s : Shared) (E : Value → Shared → Prop) (ds : List Int) (X L : Nat) (t u v : Tok), A.depth + k < recursionLimit → In35 w f D cD cI cN s.heap → IsL IsI ds (.ref D) s.heap → X < 2 ^ k → L + k ≤ ds.length → ds.length ≤ 20 →
    wpAny (model prog w) A (call (.ref f) [.int (X : Int) t, .int (L : Int) u, .int ((L + k : Nat) : Int) v]) (fun _ s' => To s s' ∧ ExV [D] s.heap s'.heap ∧ IsL IsI (setBits ds X L k) (.ref D) s'.heap) E s := by
  intro k
  induction k using Nat.strongRecOn with
  | ind k ih =>
  intro hk1 hk10 A s E ds X L t u v hA I hds hX hL h20
  obtain ⟨doc, pm, c', ctv, e, rec, n1, n2⟩ := I.fn
  obtain ⟨l0, vs0, e0, p0, q0⟩ := id hds
  cases e0
  refine call_clo (P := fun _ s' => To s s' ∧ ExV [D] s.heap s'.heap ∧ IsL IsI (setBits ds X L k) (.ref D) s'.heap) (V := [D]) (fd := fn35 w.params [("n", cN), ("inner", cI), ("a_digits", cD)] doc pm c' ctv) (by omega) e rfl I.lim rec (fun b hb => by simp at hb; subst hb; obtain ⟨n, e'⟩ := p0; exact Heap.lt_size e') rfl (bind35i _ _ _ _ _ _ _ _ _) ?nc ?nl (fun s1 env henv F hlim1 keep1 => ?_) rfl rfl rfl
  case nc => exact nc35 w.params
  case nl => intro x hx; simp at hx; rcases hx with rfl | rfl | rfl <;> rfl
  subst henv
  have kE : Ext s.heap s1.heap := .of_keep keep1
  have I1 := I.exv p0 kE.exv
  have p1 := kE.plain p0
  refine wpAny_execs_cons (st_if (tt_eq (ev_add (F.loc (x := "L") rfl rfl).trI ev_int) (F.loc (x := "R") rfl rfl).trI) fun s2 g2 => ?_)
  have F2 := F.go g2
  by_cases hk : k = 1
  · subst hk
    rw [show ((L : Int) + 1 == ((L + 1 : Nat) : Int)) = true from by simp]
    refine wpAny_execs_cons (wpAny_Assign_Subscript ((F2.loc (x := "x") rfl rfl).wp (by decide) ((Rd.free cD rfl rfl rfl (g2.ext.cell I1.d) rfl).wp (by decide) ((F2.loc (x := "L") rfl rfl).wp (by decide)
      (set_plain (g2.ext.plain p1) (by omega) (by rw [q0.length]; omega) (by omega) fun h3 p3 k3 => wpAny_execs_cons (wpAny_Return_none ?_))))))
    refine ⟨F2.to.trans ⟨h3, _, rfl⟩, F2.ext.trans (.set (by simp) I.ne (noRec_plain (g2.ext.plain p1)) k3), ?_⟩
    refine ⟨D, _, rfl, p3, ?_⟩
    have hb : bitN X 0 = (X : Int) := by unfold bitN; have : X < 2 := hX; congr 1; omega
    have := (All2.imp (h := s.heap) (h' := h3) (R := IsI) (R' := IsI) (fun _ _ y => y) q0).set (a := (X : Int)) (v := .int X t) ⟨t, rfl⟩ L
    rw [show setBits ds X L 1 = ds.set L (X : Int) from by rw [setBits, setBits, hb]; rfl]
    simpa using this
  · rw [show ((L : Int) + 1 == ((L + k : Nat) : Int)) = false from by simp; omega]
    obtain ⟨m, hm⟩ : ∃ m, m = k / 2 := ⟨_, rfl⟩
    have hm1 : 1 ≤ m := by omega
    refine wpAny_execs_nil ?_
    refine wpAny_execs_cons (sk_assign F2 (ev_cast (b' := ((L + m : Nat) : Int)) (ev_shr (ev_add (F2.loc (x := "L") rfl rfl).trI (F2.loc (x := "R") rfl rfl).trI) ev_int (by decide)) ?_) rfl fun v3 s3 s4 hv3 g3 F4 d4 _ => ?_)
    · rw [show ((L : Int) + ((L + k : Nat) : Int)) = ((2 * L + k : Nat) : Int) from by omega, fdiv2]; omega
    obtain ⟨t3, rfl⟩ := hv3
    have p4 := d4.plain (g3.ext.plain (g2.ext.plain p1))
    obtain ⟨tn, hn⟩ := (I.exv p0 F4.ext).n
    refine wpAny_execs_cons (sk_assign F4 (ev_cast (b' := (m : Int)) (ev_mul (b := 1) (ev_sub (F4.loc (x := "mid") rfl rfl).trI (F4.loc (x := "L") rfl rfl).trI) (Rd.trI (.free cN rfl rfl rfl hn rfl)) (by decide) (by decide)) ?_) rfl fun v5 s5 s6 hv5 g5 F6 d6 _ => ?_)
    · omega
    obtain ⟨t5, rfl⟩ := hv5
    have p6 := d6.plain (g5.ext.plain p4)
    refine wpAny_execs_cons (sk_assign F6 (ev_cast (b' := ((X / 2 ^ m : Nat) : Int)) (ev_shr (F6.loc (x := "x") rfl rfl).trI (F6.loc (x := "shift") rfl rfl).trI (by omega)) ?_) rfl fun v7 s7 s8 hv7 g7 F8 d8 _ => ?_)
    · rw [Int.toNat_natCast, fdivp]
    obtain ⟨t7, rfl⟩ := hv7
    have p8 := d8.plain (g7.ext.plain p6)
    have hX1024 : X < 1024 := Nat.lt_of_lt_of_le hX (Nat.pow_le_pow_right (by decide) hk10)
    refine wpAny_execs_cons (sk_assign F8 (ev_cast (b' := ((X % 2 ^ m : Nat) : Int)) (ev_xor (F8.loc (x := "x") rfl rfl).trI (ev_shl (F8.loc (x := "upper") rfl rfl).trI (F8.loc (x := "shift") rfl rfl).trI (by omega) (by omega) ?_)) ?_) rfl fun v9 s9 s10 hv9 g9 F10 d10 _ => ?_)
    · have : X / 2 ^ m ≤ X := Nat.div_le_self _ _
      rw [Int.natAbs_natCast]
      omega
    · rw [Int.toNat_natCast]; exact xor_small X m
    obtain ⟨t9, rfl⟩ := hv9
    have p10 := d10.plain (g9.ext.plain p8)
    have I10 := I.exv p0 F10.ext
    obtain ⟨doc2, pm2, c2, ctv2, e2, _⟩ := I10.fn
    have hds10 : IsL IsI ds (.ref D) s10.heap := ⟨D, _, rfl, p10, All2.imp (h := s.heap) (R := IsI) (fun _ _ y => y) q0⟩
    refine wpAny_execs_cons (wpAny_Expr_any (ev_callF3 (.free cI rfl rfl rfl I10.i rfl) e2 rfl (F10.loc (x := "lower") rfl rfl).trI (fun h' x => ((F10.loc (x := "L") rfl rfl).up x).trI) (fun h' x => ((F10.loc (x := "mid") rfl rfl).up x).trI) fun w1 w2 w3 s11 s12 s13 g11 g12 g13 hw1 hw2 hw3 => ?_))
    obtain ⟨a1, rfl⟩ := hw1
    obtain ⟨a2, rfl⟩ := hw2
    obtain ⟨a3, rfl⟩ := hw3
    have g1013 := (g11.trans g12).trans g13
    refine wpAny_mono (ih m (by omega) hm1 (by omega) _ _ _ ds (X % 2 ^ m) L a1 a2 a3 ?_ (I10.exv p10 g1013.ext.exv) (mono_LI _ _ _ _ g1013.ext hds10) (Nat.mod_lt _ (Nat.pow_pos (by decide))) (by omega) h20) (fun _ s14 ⟨to14, x14, hds14⟩ => ?_) fun _ _ e => e
    · show A.depth + 1 + m < recursionLimit
      omega
    have F14 := (F10.go g1013).exv to14 x14
    have I14 := I.exv p0 F14.ext
    obtain ⟨doc3, pm3, c3, ctv3, e3, _⟩ := I14.fn
    refine wpAny_execs_cons (wpAny_Expr_any (ev_callF3 (.free cI rfl rfl rfl I14.i rfl) e3 rfl (F14.loc (x := "upper") rfl rfl).trI (fun h' x => ((F14.loc (x := "mid") rfl rfl).up x).trI) (fun h' x => ((F14.loc (x := "R") rfl rfl).up x).trI) fun w1 w2 w3 s15 s16 s17 g15 g16 g17 hw1 hw2 hw3 => ?_))
    obtain ⟨b1, rfl⟩ := hw1
    obtain ⟨b2, rfl⟩ := hw2
    obtain ⟨b3, rfl⟩ := hw3
    have g1417 := (g15.trans g16).trans g17
    obtain ⟨l14, vs14, e14, p14, q14⟩ := id hds14
    cases e14
    have hk' : L + k = L + m + (k - m) := by omega
    rw [hk']
    refine wpAny_mono (ih (k - m) (by omega) (by omega) (by omega) _ _ _ _ (X / 2 ^ m) (L + m) b1 b2 b3 ?_ (I14.exv p14 g1417.ext.exv) (mono_LI _ _ _ _ g1417.ext hds14) ?_ (by rw [setBits_len]; omega) (by rw [setBits_len]; omega)) (fun _ s18 ⟨to18, x18, hds18⟩ => ?_) fun _ _ e => e
    · show A.depth + 1 + (k - m) < recursionLimit
      omega
    · rw [Nat.div_lt_iff_lt_mul (Nat.pow_pos (by decide)), ← Nat.pow_add, show k - m + m = k from by omega]
      exact hX
    · refine wpAny_execs_nil ?_
      have F18 := (F14.go g1417).exv to18 x18
      refine ⟨F18.to, F18.ext, ?_⟩
      rw [setBits_low _ _ _ _ _ (Nat.le_refl _), setBits_join, show m + (k - m) = k from by omega] at hds18
      exact hds18
end


section
variable {prog : Program} {w : World} {A : Around} {h : Heap} {env : Env} {pos : Pos}
theorem ev_bitlen {o : PySem.Expr} {apos : Pos} {a : Int} (ho : Tr prog w A h (eval o env) (IsI a)) (hline : (apos.endLine == pos.line) = true := by rfl) (hbase : attributeBase o "bit_length" env (eval o env) = eval o env := by rfl) :
    Tr prog w A h (eval (.Call (.Attribute o "bit_length" apos) [] [] pos) env) (IsI (Builtin.Int.intBits a)) := fun _ _ hx =>
  Call_method0 hbase hline (ho.go hx fun v s1 ⟨t, e⟩ g1 => by
    subst e
    exact ⟨"int", "int.bit_length", F.plainAttrs_int, slot_int_bit_length, type_int_bit_length, typeIs_int _ _ _, (fun _ e => nomatch e), method0_gives slot_int_bit_length entry_int_bit_length (typeIs_int _ _ _) (args_int_bit_length _) (AutoIntG2.int_bit_length_int_0 _ _) (by exact ⟨⟨_, rfl⟩, g1.trans .tok⟩)⟩)

def bits10 (a : Nat) : List Int := [bitN a 0, bitN a 1, bitN a 2, bitN a 3, bitN a 4, bitN a 5, bitN a 6, bitN a 7, bitN a 8, bitN a 9]
def digs (a : Nat) : List Int := setBits (List.replicate (Builtin.Int.intBits a) 0) a 0 (Builtin.Int.intBits a)
theorem setBits_get (ds : List Int) (X : Nat) : ∀ k, k ≤ ds.length → ∀ i : Nat, (setBits ds X 0 k)[i]? = if i < k then some (bitN X i) else ds[i]?
  | 0, _, i => by simp [setBits]
  | k + 1, hk, i => by
    rw [setBits, Nat.zero_add, List.getElem?_set, setBits_get ds X k (by omega) i, setBits_len]
    by_cases h : k = i
    · subst h
      have h1 : k < ds.length := by omega
      simp [h1]
    · by_cases h2 : i < k
      · have h3 : i < k + 1 := by omega
        simp [h, h2, h3]
      · have h3 : ¬ i < k + 1 := by omega
        simp [h, h2, h3]
theorem bits10_get (a : Nat) {i : Nat} (h : i < 10) : (bits10 a)[i]? = some (bitN a i) := by
  have : i = 0 ∨ i = 1 ∨ i = 2 ∨ i = 3 ∨ i = 4 ∨ i = 5 ∨ i = 6 ∨ i = 7 ∨ i = 8 ∨ i = 9 := by omega
  rcases this with rfl | rfl | rfl | rfl | rfl | rfl | rfl | rfl | rfl | rfl <;> rfl
theorem bits_facts (a : Nat) (ha : a < 1024) : Builtin.Int.intBits (a : Int) ≤ 10 ∧ a < 2 ^ Builtin.Int.intBits (a : Int) ∧ (a ≠ 0 → 1 ≤ Builtin.Int.intBits (a : Int)) ∧ (a = 0 → Builtin.Int.intBits (a : Int) = 0) := by
  unfold Builtin.Int.intBits
  by_cases h : a = 0
  · subst h; decide
  · have h0 : ((a : Int) == 0) = false := by simp; omega
    have h1 : ((a : Int)).natAbs = a := Int.natAbs_natCast a
    rw [h0, h1]
    simp only [Bool.false_eq_true, if_false]
    have h2 : a.log2 < 10 := (Nat.log2_lt h).mpr ha
    have h3 : a < 2 ^ (a.log2 + 1) := (Nat.log2_lt h).mp (Nat.lt_succ_self _)
    exact ⟨by omega, h3, fun _ => by omega, fun q => absurd q h⟩
theorem digs_eq (a : Nat) (ha : a < 1024) : (digs a ++ List.replicate 10 0).take 10 = bits10 a := by
  obtain ⟨f1, f2, _, _⟩ := bits_facts a ha
  apply List.ext_getElem?
  intro i
  unfold digs
  generalize Builtin.Int.intBits (a : Int) = K at f1 f2
  by_cases hi : i < 10
  · rw [List.getElem?_take, if_pos hi, bits10_get a hi]
    by_cases hk : i < K
    · rw [List.getElem?_append_left (by rw [setBits_len, List.length_replicate]; exact hk), setBits_get _ _ _ (by simp), if_pos hk]
    · rw [List.getElem?_append_right (by rw [setBits_len, List.length_replicate]; omega), setBits_len, List.length_replicate, List.getElem?_replicate, if_pos (by omega)]
      have : a < 2 ^ i := Nat.lt_of_lt_of_le f2 (Nat.pow_le_pow_right (by decide) (by omega))
      unfold bitN
      rw [Nat.div_eq_of_lt this]; rfl
  · rw [List.getElem?_take, if_neg hi, List.getElem?_eq_none (by show 10 ≤ i; omega)]

theorem bind35 (P : Params) (a b : Value) : bindArgs (fdOf P 35) ⟨[a, b], []⟩ = pure [(("a" : Str), a), (("n" : Str), b)] := rfl

theorem int2digits_spec (G : Gm w h) (hA : A.depth + 20 < recursionLimit) (hh : A.handled = none) {a : Nat} (ha : a < 1024) {t u : Tok} : TrN prog w A h (call (.ref 35) [.int (a : Int) t, .int 1 u]) (IsL IsI (digs a)) := fun s E hx => by
  obtain ⟨f1, f2, f3, f4⟩ := bits_facts a ha
  obtain ⟨K, hK⟩ : ∃ K, K = Builtin.Int.intBits (a : Int) := ⟨_, rfl⟩
  rw [← hK] at f1 f2 f3 f4
  have hdigs : digs a = setBits (List.replicate K 0) a 0 K := by rw [hK]; rfl
  rw [hdigs]
  refine call_fn (P := fun s v s' => (IsL IsI (setBits (List.replicate K 0) a 0 K) v s'.heap ∧ ∃ D, v = .ref D ∧ s.heap.get? D = none) ∧ Go s s') (fd := fdOf w.params 35) (by omega) (G.gl.K 35 _ rfl) rfl G.gl.lim (fun h' e => codeRec_of (G.gl.up e).K rfl) rfl (bind35 _ _ _) rfl (fun n x hx => ?_) (fun s₀ s env hx0 henv F => ?_) rfl rfl rfl s E hx
  · simp at hx
    rcases hx with rfl | rfl
    · exact .inl rfl
    · exact .inr ⟨rfl, rfl⟩
  · subst henv
    have G0 : Gm w s₀.heap := G.up hx0
    have hh' : (A.deeper (callEnvC (fdOf w.params 35) s₀.heap.objs.size 35)).handled = none := hh
    have en : ∀ {s1 : Shared} {m cm pos} (_ : Fm s₀ (callEnvC (fdOf w.params 35) s₀.heap.objs.size 35) m cm s1), cm "n" = some (.int 1 u) → Tr prog w (A.deeper (callEnvC (fdOf w.params 35) s₀.heap.objs.size 35)) s1.heap (eval (.Name "n" pos) (callEnvC (fdOf w.params 35) s₀.heap.objs.size 35)) (IsI 1) := fun F1 h1 => (F1.rdc (x := "n") rfl rfl h1).trI
    refine wpAny_execs_cons (st_assignC (Φ := fun v h => IsL IsI (List.replicate K 0) v h ∧ ∃ D, v = .ref D ∧ s.heap.get? D = none) F (fun s1 E1 e1 => wpAny_mono ((evN_mulL mono_I (G0.up F.ext).gl.tab (ev_list1 mono_I ev_int rfl) (ev_cast (b' := (K : Int)) (ev_fdiv (ev_sub (ev_add (ev_bitlen (F.loc (x := "a") rfl rfl).trI) (en F rfl)) ev_int) (en F rfl) (by decide) (by decide) (by decide)) ?_) (by omega) (by omega)) s1 E1 e1)
      (fun v s' ⟨⟨h1, D, e, hn⟩, g⟩ => ⟨⟨by rw [Int.toNat_natCast] at h1; exact h1, D, e, fresh_back e1 (G0.up F.ext).gl.tab hn⟩, g⟩) fun _ _ e => e) rfl rfl fun v s1 s2 hv g1 F2 d2 k2 => ?_)
    · rw [← hK, Int.fdiv_one]; omega
    obtain ⟨hv, D, rfl, hD⟩ := hv
    have hD0 : s₀.heap.get? D = none := fresh_back F.ext G0.gl.tab hD
    have hds2 := d2.ints hv
    have G2 := G0.up F2.ext
    refine wpAny_execs_cons (nestDef_K rfl rfl rfl (made (clos := [("n", s₀.heap.objs.size + 1), ("inner", s₀.heap.objs.size + 1 + 1 + 1), ("a_digits", s₀.heap.objs.size + 1 + 1)]) (c := 34) G2 G2.gl.tab.1 ?qn rfl rfl rfl rfl rfl fun f c' doc pm ctv h3 tk3 hfn hfo rec n1 n2 k3 hP T3 => ?_))
    case qn => kernel_rfl
    have e3 : Ext s2.heap h3 := by
      obtain ⟨ps, hP⟩ := hP
      refine ⟨fun b o hq e => ?_, fun t => ⟨T3, ?_⟩⟩
      · by_cases hb : b = 30
        · subst hb
          rw [hP] at e; cases e
          exact absurd rfl (hq (.inl rfl) ps)
        · exact k3 b o hb e
      · refine t.2.step (V := [30]) ?_ (by decide) (fun b hb q hr => ?_) (fun b o hb e => k3 b o (by simpa using hb) e)
        · decide
        · simp at hb; subst hb
          obtain ⟨c, o, vs, tq, e4, g4, d4, r4⟩ := hr
          cases e4
          obtain ⟨_, _, ps', hp', hr'⟩ := t.1
          rw [hp'] at g4; cases g4
          cases d4
          rcases hr' with rfl | ⟨c', rfl, _⟩
          · simp at r4
          · simp [rawInt] at r4
    have g3 : Go s2 { s2 with heap := h3, toks := tk3 } := .mk' e3
    refine (F2.go g3).storeC (c := s₀.heap.objs.size + 1 + 1 + 1) rfl rfl fun s4 F4 k4 => ?_
    have d4 : Hd h3 s4.heap := (F2.go g3).keepC (n := "inner") rfl k4
    have hds4 := d4.ints (mono_LI _ _ _ _ e3 hds2)
    have ne := G0.gl.tab.ne hD0
    have kk4 : ∀ b o, (∀ v, o.data ≠ .cell v) → h3.get? b = some o → s4.heap.get? b = some o := fun b o hn e => k4 b o (by
      rintro rfl
      obtain ⟨o', e', d'⟩ := (F2.go g3).cell "inner" _ rfl
      rw [e] at e'; cases e'
      exact hn _ d') e
    have I4 : In35 w f D (s₀.heap.objs.size + 1 + 1) (s₀.heap.objs.size + 1 + 1 + 1) (s₀.heap.objs.size + 1) s4.heap := by
      refine ⟨⟨doc, pm, c', ctv, kk4 _ _ (by nofun) hfo, ?_, n1, n2⟩, (G0.up F4.ext).gl.lim, F4.cell "a_digits" _ rfl, F4.cell "inner" _ rfl, ⟨u, F4.cell "n" _ rfl⟩, ne⟩
      obtain ⟨c, o, vs, tq, e4, g4, d4, r4⟩ := rec
      exact ⟨c, o, vs, tq, e4, kk4 _ _ (by rw [d4]; nofun) g4, d4, r4⟩
    refine wpAny_execs_cons (st_if (tt_int (F4.loc (x := "a") rfl rfl).trI) fun s5 g5 => ?_)
    have F5 := F4.go g5
    have hds5 := mono_LI _ _ _ _ g5.ext hds4
    by_cases ha0 : a = 0
    · rw [show ((a : Int) != 0) = false from by simp [ha0]]
      refine wpAny_execs_nil ?_
      have hK0 := f4 ha0
      refine wpAny_execs_cons (st_ret (F5.rdc (x := "a_digits") rfl rfl rfl).tr fun v s6 hv g6 => ?_)
      have hv : v = .ref D := hv
      subst hv
      refine ⟨⟨?_, D, rfl, hD0⟩, (F5.go g6).Go⟩
      subst hK0
      exact mono_LI _ _ _ _ g6.ext hds5
    · rw [show ((a : Int) != 0) = true from by simp; omega]
      obtain ⟨l5, vs5, e5, p5, q5⟩ := id hds5
      cases e5
      obtain ⟨l4, vs4, e4, p4, q4⟩ := id hds4
      cases e4
      have I5 := I4.exv p4 g5.ext.exv
      obtain ⟨doc5, pm5, c5, ctv5, e5, _⟩ := I5.fn
      refine wpAny_execs_cons (wpAny_Expr_any (ev_callF3 (F5.rdc (x := "inner") rfl rfl rfl) e5 rfl (F5.loc (x := "a") rfl rfl).trI (fun _ _ => ev_int) (fun h' x => ev_callB (((G0.up F5.ext).gl.up x).bui rfl boot_len (by decide) rfl rfl rfl rfl) (((F5.rdc (x := "a_digits") rfl rfl rfl).up x).trP (Φ := IsL IsI (List.replicate K 0)) fun h'' x' => mono_LI _ _ _ _ (x.trans x') hds5) fun v h' _ hv => tr_len hv (by rw [List.length_replicate]; omega))
        fun w1 w2 w3 s6 s7 s8 g6 g7 g8 hw1 hw2 hw3 => ?_))
      obtain ⟨a1, rfl⟩ := hw1
      obtain ⟨a2, rfl⟩ := hw2
      obtain ⟨a3, rfl⟩ := hw3
      have g58 := (g6.trans g7).trans g8
      have hK1 := f3 ha0
      have ei := inner35 (prog := prog) K hK1 (by omega) (A.deeper (callEnvC (fdOf w.params 35) s₀.heap.objs.size 35)) s8 (fun _ _ => False) (List.replicate K 0) a 0 a1 a2 a3 (by show A.depth + 1 + K < recursionLimit; omega) (I5.exv p5 g58.ext.exv) (mono_LI _ _ _ _ g58.ext hds5) f2 (by rw [List.length_replicate]; omega) (by rw [List.length_replicate]; omega)
      rw [Nat.zero_add] at ei
      rw [List.length_replicate]
      refine wpAny_mono ei (fun _ s9 ⟨to9, x9, hds9⟩ => ?_) fun _ _ e => e
      refine wpAny_execs_nil ?_
      have F8 := F5.go g58
      have pl8 := g58.ext.plain p5
      have F9 := F8.exv to9 x9 (fun b hb => by simp at hb; subst hb; exact hD0) (fun hm => by simp at hm; exact F8.neLD pl8 hm.symm) fun n c hc hm => by simp at hm; exact F8.neCD pl8 n c hc hm.symm
      refine wpAny_execs_cons (st_ret (F9.rdc (x := "a_digits") rfl rfl rfl).tr fun v s10 hv g10 => ?_)
      have hv : v = .ref D := hv
      subst hv
      exact ⟨⟨mono_LI _ _ _ _ g10.ext hds9, D, rfl, hD0⟩, (F9.go g10).Go⟩
end


noncomputable def d42 (P : Params) : Arguments × List Stmt × Scope := match (fdOf P 42).body with
  | .stmts (d :: _) => defOf d
  | _ => (default, [], default)
noncomputable abbrev fn42 (P : Params) (cl : List (Str × Addr)) (doc pm : Value) (c' : Addr) (ctv : Value) : FuncData := fnX "inner" "_digits2int.<locals>.inner" (d42 P).1 (d42 P).2.1 (d42 P).2.2 cl .none .none doc pm none (.ref c') ctv
theorem nc42 (P : Params) : ∀ x ∈ (d42 P).2.2.names, x.2 ≠ .cell := fun x hx => by
  have h : (d42 P).2.2.names.all (fun x => x.2 != .cell) = true := rfl
  have := List.all_eq_true.mp h x hx
  simpa using this

structure In42 (w : World) (ds : List Int) (f cD cI cN : Addr) (h : Heap) : Prop where
  fn : ∃ doc pm c' ctv, h.get? f = some { cls := .type "function", data := .func (fn42 w.params [("n", cN), ("inner", cI), ("digits", cD)] doc pm c' ctv) } ∧ h.CodeRec (.ref c') "_digits2int.<locals>.inner" ∧ c' ≠ 30 ∧ c' ≠ 37
  lim : h.NoLimit
  d : ∃ v, h.IsCell cD (some v) ∧ IsL IsI ds v h
  i : h.IsCell cI (some (.ref f))
  n : ∃ t, h.IsCell cN (some (.int 1 t))
theorem In42.up {w : World} {ds : List Int} {f cD cI cN : Addr} {h h' : Heap} (I : In42 w ds f cD cI cN h) (x : Ext h h') : In42 w ds f cD cI cN h' := by
  obtain ⟨⟨doc, pm, c', ctv, e, ⟨c₂, o₂, vs₂, t₂, e₂, g₂, r₂⟩, n1, n2⟩, l, ⟨v, d1, d2⟩, i, t, n⟩ := I
  cases e₂
  exact ⟨⟨doc, pm, c', ctv, x.solid (solid_func rfl) e, ⟨_, o₂, vs₂, t₂, rfl, x.keep _ _ (fun q => (q.elim n1 n2).elim) g₂, r₂⟩, n1, n2⟩, x.nolimit l, ⟨v, x.cell d1, mono_LI _ _ _ _ x d2⟩, x.cell i, t, x.cell n⟩

def vals (ds : List Int) (L : Nat) : Nat → Int
  | 0 => 0
  | k + 1 => vals ds L k + (ds[L + k]?).getD 0 * 2 ^ k
theorem vals_join (ds : List Int) (L m : Nat) : ∀ k, vals ds (L + m) k * 2 ^ m + vals ds L m = vals ds L (m + k)
  | 0 => by simp [vals]
  | k + 1 => by
    have := vals_join ds L m k
    rw [vals, ← Nat.add_assoc, vals, ← this, Int.add_mul, Int.mul_assoc, ← Int.pow_add, Nat.add_comm k m, Nat.add_assoc]
    omega
theorem vals_bound {ds : List Int} (h : ∀ d ∈ ds, 0 ≤ d ∧ d ≤ 1) (L : Nat) : ∀ k, 0 ≤ vals ds L k ∧ vals ds L k < 2 ^ k
  | 0 => by simp [vals]
  | k + 1 => by
    obtain ⟨h1, h2⟩ := vals_bound h L k
    have hp : (0 : Int) < 2 ^ k := Int.pow_pos (by decide)
    have hd : 0 ≤ (ds[L + k]?).getD 0 ∧ (ds[L + k]?).getD 0 ≤ 1 := by
      cases e : ds[L + k]? with
      | none => simp
      | some d => exact h d (List.mem_of_getElem? e)
    rw [vals, Int.pow_succ]
    have : (ds[L + k]?).getD 0 = 0 ∨ (ds[L + k]?).getD 0 = 1 := by omega
    rcases this with e | e <;> rw [e] <;> omega

section
variable {prog : Program} {w : World}
theorem bind42i (P : Params) (cl : List (Str × Addr)) (doc pm : Value) (c' : Addr) (ctv a b : Value) : bindArgs (fn42 P cl doc pm c' ctv) ⟨[a, b], []⟩ = pure [(("L" : Str), a), (("R" : Str), b)] := rfl

theorem Fk.Go {s₀ s : Shared} {env : Env} {m : Str → Option Value} (F : Fk [] s₀ env m s) : Go s₀ s := F.to.go F.ext.nil

theorem inner42 {ds : List Int} {f cD cI cN : Addr} (h01 : ∀ d ∈ ds, 0 ≤ d ∧ d ≤ 1) : ∀ k : Nat, 1 ≤ k → k ≤ 10 → ∀ (A : Around) (h : Heap) (L : Nat) (u v : Tok), A.depth + k < recursionLimit → In42 w ds f cD cI cN h → L + k ≤ ds.length → ds.length ≤ 20 →
    Tr prog w A h (call (.ref f) [.int (L : Int) u, .int ((L + k : Nat) : Int) v]) (IsI (vals ds L k)) := by
  intro k
  induction k using Nat.strongRecOn with
  | ind k ih =>
  intro hk1 hk10 A h L u v hA I0 hL h20 s E hx
  have I := I0.up hx
  obtain ⟨doc, pm, c', ctv, e, rec, n1, n2⟩ := I.fn
  refine call_clo (P := fun r s' => IsI (vals ds L k) r s'.heap ∧ Go s s') (V := []) (fd := fn42 w.params [("n", cN), ("inner", cI), ("digits", cD)] doc pm c' ctv) (by omega) e rfl I.lim rec (by simp) rfl (bind42i _ _ _ _ _ _ _ _) (nc42 w.params) ?nl (fun s1 env henv F hlim1 keep1 => ?_) rfl rfl rfl
  case nl => intro x hx; simp at hx; rcases hx with rfl | rfl <;> rfl
  subst henv
  have I1 := I.up F.ext.nil
  refine wpAny_execs_cons (st_if (tt_eq (ev_add (F.loc (x := "L") rfl rfl).trI ev_int) (F.loc (x := "R") rfl rfl).trI) fun s2 g2 => ?_)
  have F2 := F.go g2
  have I2 := I1.up g2.ext
  obtain ⟨dv, hd, hds⟩ := I2.d
  by_cases hk : k = 1
  · subst hk
    rw [show ((L : Int) + 1 == ((L + 1 : Nat) : Int)) = true from by simp]
    obtain ⟨x, hx⟩ : ∃ x, ds[L]? = some x := ⟨_, List.getElem?_eq_getElem (by omega)⟩
    refine wpAny_execs_cons (st_ret (ev_item mono_I (xs := ds) (x := x) (Rd.trP (.free cD rfl rfl rfl hd rfl) fun h' e => mono_LI _ _ _ _ e hds) (F2.loc (x := "L") rfl rfl).trI (by omega) (by omega) (by simpa using hx)) fun r s3 hr g3 => ?_)
    refine ⟨?_, (F2.go g3).Go⟩
    rw [show vals ds L 1 = x from by simp [vals, hx]]
    exact hr
  · rw [show ((L : Int) + 1 == ((L + k : Nat) : Int)) = false from by simp; omega]
    obtain ⟨m, hm⟩ : ∃ m, m = k / 2 := ⟨_, rfl⟩
    have hm1 : 1 ≤ m := by omega
    refine wpAny_execs_nil ?_
    refine wpAny_execs_cons (sk_assign F2 (ev_cast (b' := ((L + m : Nat) : Int)) (ev_shr (ev_add (F2.loc (x := "L") rfl rfl).trI (F2.loc (x := "R") rfl rfl).trI) ev_int (by decide)) ?_) rfl fun v3 s3 s4 hv3 g3 F4 d4 _ => ?_)
    · rw [show ((L : Int) + ((L + k : Nat) : Int)) = ((2 * L + k : Nat) : Int) from by omega, fdiv2]; omega
    obtain ⟨t3, rfl⟩ := hv3
    obtain ⟨tn, hn⟩ := (I.up F4.ext.nil).n
    refine wpAny_execs_cons (sk_assign F4 (ev_cast (b' := (m : Int)) (ev_mul (b := 1) (ev_sub (F4.loc (x := "mid") rfl rfl).trI (F4.loc (x := "L") rfl rfl).trI) (Rd.trI (.free cN rfl rfl rfl hn rfl)) (by decide) (by decide)) ?_) rfl fun v5 s5 s6 hv5 g5 F6 d6 _ => ?_)
    · omega
    obtain ⟨t5, rfl⟩ := hv5
    have I6 := I.up F6.ext.nil
    obtain ⟨doc2, pm2, c2, ctv2, e2, _⟩ := I6.fn
    have hb := vals_bound h01 (L + m) (k - m)
    have hp : (2 : Int) ^ (k - m) ≤ 1024 := (pow_small (by omega)).2
    refine wpAny_execs_cons (st_ret (ev_cast (b' := vals ds L k) (ev_add (ev_shl (ev_callF2 (Ψ := IsI (vals ds (L + m) (k - m))) (.free cI rfl rfl rfl I6.i rfl) e2 rfl (F6.loc (x := "mid") rfl rfl).trI (fun h' x => ((F6.loc (x := "R") rfl rfl).up x).trI) fun w1 w2 h1 h2 x1 x2 hw1 hw2 => ?c1) (F6.loc (x := "shift") rfl rfl).trI (by omega) (by omega) (by omega))
      (ev_callF2 (Ψ := IsI (vals ds L m)) (.free cI rfl rfl rfl I6.i rfl) e2 rfl (F6.loc (x := "L") rfl rfl).trI (fun h' x => ((F6.loc (x := "mid") rfl rfl).up x).trI) fun w1 w2 h1 h2 x1 x2 hw1 hw2 => ?c2)) ?c3) fun r s7 hr g7 => ⟨hr, (F6.go g7).Go⟩)
    case c1 =>
      obtain ⟨a1, rfl⟩ := hw1
      obtain ⟨a2, rfl⟩ := hw2
      rw [show L + k = L + m + (k - m) from by omega]
      refine ih (k - m) (by omega) (by omega) (by omega) _ h2 (L + m) a1 a2 ?_ (I6.up (x1.trans x2)) (by omega) h20
      show A.depth + 1 + (k - m) < recursionLimit
      omega
    case c2 =>
      obtain ⟨a1, rfl⟩ := hw1
      obtain ⟨a2, rfl⟩ := hw2
      refine ih m (by omega) (by omega) (by omega) _ h2 L a1 a2 ?_ (I6.up (x1.trans x2)) (by omega) h20
      show A.depth + 1 + m < recursionLimit
      omega
    case c3 =>
      rw [Int.toNat_natCast, vals_join, show m + (k - m) = k from by omega]

theorem bind42 (P : Params) (a b : Value) : bindArgs (fdOf P 42) ⟨[a, b], []⟩ = pure [(("digits" : Str), a), (("n" : Str), b)] := rfl

theorem digits2int_spec {A : Around} {h : Heap} (G : Gm w h) (hA : A.depth + 20 < recursionLimit) (hh : A.handled = none) {ds : List Int} (h01 : ∀ d ∈ ds, 0 ≤ d ∧ d ≤ 1) (h10 : ds.length = 10) {v : Value} {u : Tok} (hv : IsL IsI ds v h) : Tr prog w A h (call (.ref 42) [v, .int 1 u]) (IsI (vals ds 0 10)) := fun s E hx => by
  refine call_fn (P := fun s v s' => IsI (vals ds 0 10) v s'.heap ∧ Go s s') (fd := fdOf w.params 42) (by omega) (G.gl.K 42 _ rfl) rfl G.gl.lim (fun h' e => codeRec_of (G.gl.up e).K rfl) rfl (bind42 _ _ _) rfl (fun n x hx => ?_) (fun s₀ s env hx0 henv F => ?_) rfl rfl rfl s E hx
  · simp at hx
    rcases hx with rfl | rfl <;> exact .inr ⟨rfl, rfl⟩
  · subst henv
    have G0 : Gm w s₀.heap := G.up hx0
    have G2 := G0.up F.ext
    have hvs := mono_LI _ _ _ _ (hx0.trans F.ext) hv
    refine wpAny_execs_cons (nestDef_K rfl rfl rfl (made (clos := [("n", s₀.heap.objs.size + 1 + 1), ("inner", s₀.heap.objs.size + 1 + 1 + 1), ("digits", s₀.heap.objs.size + 1)]) (c := 41) G2 G2.gl.tab.2 ?qn rfl rfl rfl rfl rfl fun f c' doc pm ctv h3 tk3 hfn hfo rec n1 n2 k3 hP T3 => ?_))
    case qn => kernel_rfl
    have e3 : Ext s.heap h3 := by
      obtain ⟨ps, hP⟩ := hP
      refine ⟨fun b o hq e => ?_, fun t => ⟨?_, T3⟩⟩
      · by_cases hb : b = 37
        · subst hb
          rw [hP] at e; cases e
          exact absurd rfl (hq (.inr rfl) ps)
        · exact k3 b o hb e
      · refine t.1.step (V := [37]) ?_ (by decide) (fun b hb q hr => ?_) (fun b o hb e => k3 b o (by simpa using hb) e)
        · decide
        · simp at hb; subst hb
          obtain ⟨c, o, vs, tq, e4, g4, d4, r4⟩ := hr
          cases e4
          obtain ⟨_, _, ps', hp', hr'⟩ := t.2
          rw [hp'] at g4; cases g4
          cases d4
          rcases hr' with rfl | ⟨c', rfl, _⟩
          · simp at r4
          · simp [rawInt] at r4
    have g3 : Go s { s with heap := h3, toks := tk3 } := .mk' e3
    refine (F.go g3).storeC (c := s₀.heap.objs.size + 1 + 1 + 1) rfl rfl fun s4 F4 k4 => ?_
    have kk4 : ∀ b o, (∀ v, o.data ≠ .cell v) → h3.get? b = some o → s4.heap.get? b = some o := fun b o hn e => k4 b o (by
      rintro rfl
      obtain ⟨o', e', d'⟩ := (F.go g3).cell "inner" _ rfl
      rw [e] at e'; cases e'
      exact hn _ d') e
    have hv4 : IsL IsI ds v s4.heap := ((F.go g3).keepC (n := "inner") rfl k4).ints (mono_LI _ _ _ _ e3 hvs)
    have I4 : In42 w ds f (s₀.heap.objs.size + 1) (s₀.heap.objs.size + 1 + 1 + 1) (s₀.heap.objs.size + 1 + 1) s4.heap := by
      refine ⟨⟨doc, pm, c', ctv, kk4 _ _ (by nofun) hfo, ?_, n1, n2⟩, (G0.up F4.ext).gl.lim, ⟨v, F4.cell "digits" _ rfl, hv4⟩, F4.cell "inner" _ rfl, u, F4.cell "n" _ rfl⟩
      obtain ⟨c, o, vs, tq, e4, g4, d4, r4⟩ := rec
      exact ⟨c, o, vs, tq, e4, kk4 _ _ (by rw [d4]; nofun) g4, d4, r4⟩
    refine wpAny_execs_cons (st_ret (Φ := IsI (vals ds 0 10)) (fun s5 E5 e5 => wpAny_IfExp ((tt_list (by omega) ((F4.rdc (x := "digits") rfl rfl rfl).trP (Φ := IsL IsI ds) fun h' e => mono_LI _ _ _ _ e hv4)).go e5 fun b s6 hb g6 => ?_)) fun r s7 hr g7 => ⟨hr, (F4.go g7).Go⟩)
    have hb : b = true := by rw [show b = _ from hb]; cases ds <;> simp_all
    subst hb
    have I6 := I4.up (e5.trans g6.ext)
    obtain ⟨doc2, pm2, c2, ctv2, e2, _⟩ := I6.fn
    have F6 := F4
    refine (ev_callF2 (Ψ := IsI (vals ds 0 10)) ((F4.rdc (x := "inner") rfl rfl rfl).up (e5.trans g6.ext)) e2 rfl ev_int (fun h' x => ev_callB (((G0.up F4.ext).gl.up ((e5.trans g6.ext).trans x)).bui rfl boot_len (by decide) rfl rfl rfl rfl) (((F4.rdc (x := "digits") rfl rfl rfl).up ((e5.trans g6.ext).trans x)).trP (Φ := IsL IsI ds) fun h'' x' => mono_LI _ _ _ _ (((e5.trans g6.ext).trans x).trans x') hv4) fun v h' _ hv => tr_len hv (by omega)) fun w1 w2 h1 h2 x1 x2 hw1 hw2 => ?c1).go (.refl _) fun r s8 hr g8 => ⟨hr, g6.trans g8⟩
    obtain ⟨a1, rfl⟩ := hw1
    obtain ⟨a2, rfl⟩ := hw2
    have := inner42 (prog := prog) h01 10 (by decide) (by decide) (A.deeper (callEnvC (fdOf w.params 42) s₀.heap.objs.size 42)) h2 0 a1 a2 (by show A.depth + 1 + 10 < recursionLimit; omega) (I6.up (x1.trans x2)) (by omega) (by omega)
    rw [h10]
    exact this
end


/-! keys: tuples of texts and numbers -/
section
variable {prog : Program} {w : World} {A : Around} {E : Value → Shared → Prop} {s : Shared}
theorem eqb_int_str {a : Int} {b : Str} {t u : Tok} {Q : Bool → Shared → Prop} (h : Q false s) : wpAny (model prog w) A (eqBool (.int a t) (.str b u)) Q E s := by
  unfold eqBool
  have ne : ¬ ((Value.int a t == Value.str b u) = true) := by intro q; exact nomatch eq_of_beq q
  refine wpAny_holding ?_
  rw [if_neg ne]
  exact wpAny_bind (EqMixed.eq_int_str (wpAny_truthy_bool h))
theorem eqb_str_int {a : Int} {b : Str} {t u : Tok} {Q : Bool → Shared → Prop} (h : Q false s) : wpAny (model prog w) A (eqBool (.str b u) (.int a t)) Q E s := by
  unfold eqBool
  have ne : ¬ ((Value.str b u == Value.int a t) = true) := by intro q; exact nomatch eq_of_beq q
  refine wpAny_holding ?_
  rw [if_neg ne]
  exact wpAny_bind (EqMixed.eq_str_int (wpAny_truthy_bool h))
end

def mixKind (prog : Program) (w : World) : PySem.KeyKind prog w (Int ⊕ Str) where
  is k v := match k with | .inl i => (intKind prog w).is i v | .inr x => (PySem.strKind prog w).is x v
  hash k := match k with | .inl i => (intKind prog w).hash i | .inr x => (PySem.strKind prog w).hash x
  inj v a b ha hb := by
    cases a with
    | inl i =>
      obtain ⟨t, rfl⟩ := Value.isInt_shape ha
      cases b with
      | inl j => exact congrArg Sum.inl ((intKind prog w).inj _ _ _ ha hb)
      | inr y => obtain ⟨u, e⟩ := Value.isStrOf_shape (show Value.isStrOf y (.int i t) = true from hb); cases e
    | inr x =>
      obtain ⟨t, rfl⟩ := Value.isStrOf_shape ha
      cases b with
      | inl j => obtain ⟨u, e⟩ := Value.isInt_shape (show Value.isInt j (.str x t) = true from hb); cases e
      | inr y => exact congrArg Sum.inr ((PySem.strKind prog w).inj _ _ _ ha hb)
  byValue k v h := by
    cases k with
    | inl i => exact (intKind prog w).byValue _ _ h
    | inr x => exact (PySem.strKind prog w).byValue _ _ h
  pyHash {A E s k v Q} h q := by
    cases k with
    | inl i => exact (intKind prog w).pyHash h q
    | inr x => exact (PySem.strKind prog w).pyHash h q
  eqBool {A E s a b u v Q} ha hb q := by
    cases a with
    | inl i =>
      cases b with
      | inl j => exact (intKind prog w).eqBool ha hb (by simpa using q)
      | inr y =>
        obtain ⟨t, rfl⟩ := Value.isInt_shape ha
        obtain ⟨t', rfl⟩ := Value.isStrOf_shape hb
        exact eqb_int_str (by simpa using q)
    | inr x =>
      cases b with
      | inl j =>
        obtain ⟨t, rfl⟩ := Value.isStrOf_shape ha
        obtain ⟨t', rfl⟩ := Value.isInt_shape hb
        exact eqb_str_int (by simpa using q)
      | inr y => exact (PySem.strKind prog w).eqBool ha hb (by simpa using q)
  «strs» k x t v h := by
    cases k with
    | inl i => obtain ⟨u, e⟩ := Value.isInt_shape (show Value.isInt i (.str x t) = true from h); cases e
    | inr y => exact (PySem.strKind prog w).strs _ _ _ _ h

/-- the key of a thing -/
def keyOf (t : Int) : List (Int ⊕ Str) := [.inr "in", .inl t, .inr "lots"]
theorem keyOf_inj {a b : Int} (h : keyOf a = keyOf b) : a = b := by
  unfold keyOf at h
  injection h with _ h
  injection h with h _
  injection h
theorem keyOf_dec (a b : Int) : decide (keyOf a = keyOf b) = decide (a = b) := by
  by_cases h : a = b
  · subst h; simp
  · rw [decide_eq_false h, decide_eq_false fun q => h (keyOf_inj q)]
def thingKind (prog : Program) (w : World) : HeapKind prog w Int where
  is h t a := IsTupleKey (mixKind prog w) h (keyOf t) a
  hash t := tupleKeyHash (mixKind prog w) (keyOf t)
  draws _ := 4
  room A := A.units < cLine
  inj hx hy := keyOf_inj (IsTupleKey.inj hx hy)
  keeps x ho hd hs := IsTupleKey.keeps x ho hd hs
  pyHash hu hk h := wpAny_pyHash_tuple hu hk h
  eqBool hu hx hy h := wpAny_eqBool_tuple hu hx hy (by rw [keyOf_dec]; exact h)
  quiet hk h := wpAny_eqIsQuiet_tuple hk h

section
variable {prog : Program} {w : World} {A : Around} {E : Value → Shared → Prop} {s : Shared}

theorem stop_tail {α : Type} {R : α → Shared → Prop} {Q : Option Value → Shared → Prop} (hh : A.handled = none) (h : ∀ h', (∀ b o, s.heap.get? b = some o → h'.get? b = some o) → Q none { s with heap := h' }) :
    wpAny (model prog w) A.in1 (do let e ← newExc (.type "StopIteration") []; raiseNew e) R (fun e s' => wpAny (model prog w) A (do let b ← isInstance e (.type "StopIteration"); if b = true then pure none else throw e) Q E s') s := by
  unfold newExc newTuple
  refine wpAny_bind (wpAny_bind (wpAny_newObj_type ?_ (by size_fits)))
  refine wpAny_bind (m := firstArgMember _ _) (wpAny_of_eq (a := Value.none) (by simp only [firstArgMember]; rfl) (wpAny_newObj_type ?_ (by size_fits)))
  unfold raiseNew
  refine wpAny_bind (wpAny_handled ?_)
  rw [show A.in1.handled = none from hh]
  refine wpAny_bind (wpAny_pure (wpAny_throw (wpAny_bind ?_)))
  refine wpAny_isInstance (T := "StopIteration") (b := true) ⟨_, Heap.get?_push_size _ rfl, rfl⟩ isSubtype_stop ?_
  exact wpAny_pure (h _ fun b o e => Heap.get?_push_of_some _ (Heap.get?_push_of_some _ e))

/-! steps of the iterators over a dict's entries, whatever the keys -/
theorem items_next {it d : Addr} {i ep : Nat} {od : Obj} {es : Array DictEntry} {ok ov : Value} {Q : Option Value → Shared → Prop} (hh : A.handled = none) (hit : IsItemIter s.heap it d i es.size ep ok ov) (hod : s.heap.get? d = some od) (hdd : od.data = .dict es ep)
    (hItem : ∀ e h', es[i]? = some e → IsItemIterOut h' it d (i + 1) es.size ep e.key e.val s.heap.objs.size → h'.get? s.heap.objs.size = some { cls := .type "tuple", data := .seq #[e.key, e.val] } →
      (∀ b o, b ≠ it → s.heap.get? b = some o → h'.get? b = some o) → Q (some (.ref s.heap.objs.size)) { s with heap := h' })
    (hEnd : es[i]? = none → ∀ h', Heap.ExtBut it s.heap h' → Q none { s with heap := h' }) : wpAny (model prog w) A (pyNext (.ref it)) Q E s := by
  have ty : ∀ {s' : Shared} {i' : Nat} {a b : Value}, IsItemIter s'.heap it d i' es.size ep a b → s'.TypeIs (.ref it) "dict_itemiterator" := fun x => ⟨_, x, rfl⟩
  have owns : Builtin.Dict_items.ownsTuple "dict_itemiterator" = true := by decide
  have n0 : ¬ ((Value.ref d == Value.none) = true) := by simp
  have n1 : ¬ ((i : Int) < 0) := by omega
  unfold pyNext
  refine wpAny_bind (wpAny_attempt (wpAny_callSpecial?_slot (name := Str.ofString "__next__") (ty hit) PySem.F.slot_dict_itemiterator_next (wpAny_call_entry PySem.F.slot_dict_itemiterator_next (ty hit) PySem.F.entry_dict_itemiterator_next ?_ (PySem.F.args_dict_itemiterator_next_1 _))))
  refine wpAny_bind (wpAny_pure (wpAny_bind (wpAny_bind (wpAny_bind (wpAny_typeNameOfWhole_itemiter (ty hit) (wpAny_pure (wpAny_bind (wpAny_fieldsOf hit rfl ?_))))))))
  simp only [owns, if_true]
  show wpAny _ _ (if (Value.ref d == Value.none) = true then _ else _) _ _ s
  rw [if_neg n0]
  refine wpAny_bind (wpAny_pure (wpAny_bind (wpAny_dictEntries hod hdd ?_)))
  rw [if_neg (by simp)]
  refine wpAny_bind (wpAny_pure (wpAny_bind (wpAny_dictEpoch hod hdd ?_)))
  rw [if_neg (by simp)]
  refine wpAny_pure ?_
  simp only [n1, if_false, Int.toNat_natCast]
  cases he : es[i]? with
  | none =>
    refine wpAny_bind (wpAny_bind (wpAny_typeNameOfWhole_itemiter (ty hit) (wpAny_pure ?_)))
    show wpAny _ _ (setField (.ref it) 2 .none >>= fun _ => (do let e ← newExc (.type "StopIteration") []; raiseNew e)) _ _ s
    refine wpAny_bind (wpAny_setField hit rfl (by simp) (stop_tail hh fun h' hk => hEnd he h' fun b o hb e => hk b o ((Heap.SameBut.update ..).extBut b o hb e)))
  | some e =>
    refine wpAny_bind (wpAny_bind (wpAny_typeNameOfWhole_itemiter (ty hit) (wpAny_pure (wpAny_bind (wpAny_isOneOf_itemiter (ty hit) ?_)))))
    have hs1 : ((i : Int) + 1) = ((i + 1 : Nat) : Int) := by omega
    show wpAny _ _ (setField (.ref it) 3 (rawInt ((i : Int) + 1)) >>= _) _ _ s
    rw [hs1]
    refine wpAny_bind (wpAny_setField_rec hit (by simp) fun h1 he1 hs1 => ?_)
    have hit1 : IsItemIter h1 it d (i + 1) es.size ep ok ov := he1
    clear he1
    refine wpAny_bind (wpAny_holding (wpAny_bind (wpAny_isOneOf_itemiter (s := { s with heap := h1 }) (ty (s' := { s with heap := h1 }) hit1) (wpAny_bind (wpAny_isOneOf_itemiter (s := { s with heap := h1 }) (ty (s' := { s with heap := h1 }) hit1) ?_)))))
    show wpAny _ _ (Builtin.Dict_items.pairFromOwner (.ref it) 6 e.key e.val) _ _ { s with heap := h1 }
    unfold Builtin.Dict_items.pairFromOwner Builtin.Dict_items.ownedTupleIsFree
    refine wpAny_bind (wpAny_newTuple ?_)
    have z1 : h1.objs.size = s.heap.objs.size := hs1.1
    have lt : it ≠ s.heap.objs.size := Nat.ne_of_lt (Heap.lt_size hit)
    obtain ⟨h2, eh2⟩ : ∃ h2, h2 = h1.push { cls := .type "tuple", data := .seq #[e.key, e.val] } := ⟨_, rfl⟩
    have hit2 : IsItemIter h2 it d (i + 1) es.size ep ok ov := eh2 ▸ Heap.get?_push_of_some _ hit1
    have hT2 : h2.get? s.heap.objs.size = some { cls := .type "tuple", data := .seq #[e.key, e.val] } := by rw [eh2, ← z1]; exact Heap.get?_push_size _ rfl
    have k2 : ∀ b o, b ≠ it → s.heap.get? b = some o → h2.get? b = some o := fun b o hb g => eh2 ▸ Heap.get?_push_of_some _ (hs1.extBut b o hb g)
    show wpAny (model prog w) A.in1 _ _ _ { s with heap := h1.push { cls := .type "tuple", data := .seq #[e.key, e.val] } }
    rw [← eh2, z1]
    clear eh2
    refine wpAny_bind (wpAny_bind (wpAny_field hit2 rfl (x := .none) rfl (wpAny_pure ?_)))
    simp only [if_true]
    refine wpAny_bind (wpAny_field hit2 rfl (x := ok) rfl (wpAny_bind (wpAny_field hit2 rfl (x := ov) rfl ?_)))
    refine wpAny_bind (wpAny_setField_rec hit2 (by simp) fun h3 g3 x3 => wpAny_bind (wpAny_setField_rec g3 (by simp) fun h4 g4 x4 => wpAny_bind (wpAny_setField_rec g4 (by simp) fun h5 g5 x5 => wpAny_bind (wpAny_setField_rec g5 (by simp) fun h6 g6 x6 => ?_))))
    have k6 : ∀ b o, b ≠ it → h2.get? b = some o → h6.get? b = some o := fun b o hb g => x6.extBut b o hb (x5.extBut b o hb (x4.extBut b o hb (x3.extBut b o hb g)))
    exact wpAny_bind (wpAny_letGo (wpAny_pure (wpAny_pure ⟨_, rfl, wpAny_pure (hItem e h6 he g6 (k6 _ _ lt.symm hT2) fun b o hb g => k6 b o hb (k2 b o hb g))⟩)))

theorem values_next {it d : Addr} {i ep : Nat} {od : Obj} {es : Array DictEntry} {Q : Option Value → Shared → Prop} (hh : A.handled = none) (hit : s.heap.IsValIter it d i es.size ep) (hod : s.heap.get? d = some od) (hdd : od.data = .dict es ep)
    (hItem : ∀ e h', es[i]? = some e → h'.IsValIter it d (i + 1) es.size ep → (∀ b o, b ≠ it → s.heap.get? b = some o → h'.get? b = some o) → Q (some e.val) { s with heap := h' })
    (hEnd : es[i]? = none → ∀ h', Heap.ExtBut it s.heap h' → Q none { s with heap := h' }) : wpAny (model prog w) A (pyNext (.ref it)) Q E s := by
  have owns : Builtin.Dict_items.ownsTuple "dict_valueiterator" = false := by decide
  have n0 : ¬ ((Value.ref d == Value.none) = true) := by simp
  have n1 : ¬ ((i : Int) < 0) := by omega
  have ty := hit.typeIs
  obtain ⟨o, ho, hc, hd⟩ := id hit
  unfold pyNext
  refine wpAny_bind (wpAny_attempt (wpAny_callSpecial?_slot (name := Str.ofString "__next__") ty PySem.F.slot_dict_valueiterator_next (wpAny_call_entry PySem.F.slot_dict_valueiterator_next ty PySem.F.entry_dict_valueiterator_next ?_ (PySem.F.args_dict_valueiterator_next_1 _))))
  refine wpAny_bind (wpAny_pure (wpAny_bind (wpAny_bind (wpAny_bind (wpAny_typeNameOfWhole_valiter ty (wpAny_pure (wpAny_bind (wpAny_fieldsOf ho hd ?_))))))))
  simp only [owns, Bool.false_eq_true, if_false]
  show wpAny _ _ (if (Value.ref d == Value.none) = true then _ else _) _ _ s
  rw [if_neg n0]
  refine wpAny_bind (wpAny_pure (wpAny_bind (wpAny_dictEntries hod hdd ?_)))
  rw [if_neg (by simp)]
  refine wpAny_bind (wpAny_pure (wpAny_bind (wpAny_dictEpoch hod hdd ?_)))
  rw [if_neg (by simp)]
  refine wpAny_pure ?_
  simp only [n1, if_false, Int.toNat_natCast]
  cases he : es[i]? with
  | none =>
    refine wpAny_bind (wpAny_bind (wpAny_typeNameOfWhole_valiter ty (wpAny_pure ?_)))
    show wpAny _ _ (setField (.ref it) 0 .none >>= fun _ => (do let e ← newExc (.type "StopIteration") []; raiseNew e)) _ _ s
    refine wpAny_bind (wpAny_setField ho hd (by simp) (stop_tail hh fun h' hk => hEnd he h' fun b o hb e => hk b o ((Heap.SameBut.update ..).extBut b o hb e)))
  | some e =>
    refine wpAny_bind (wpAny_bind (wpAny_typeNameOfWhole_valiter ty (wpAny_pure (wpAny_bind (wpAny_isOneOf_valiter ty ?_)))))
    have hs1 : ((i : Int) + 1) = ((i + 1 : Nat) : Int) := by omega
    show wpAny _ _ (setField (.ref it) 1 (rawInt ((i : Int) + 1)) >>= _) _ _ s
    rw [hs1]
    refine wpAny_bind (wpAny_setField ho hd (by simp) ?_)
    obtain ⟨h1, eh1⟩ : ∃ h1, h1 = s.heap.update it (Obj.mapFields (·.setIfInBounds 1 (rawInt ((i + 1 : Nat) : Int)))) := ⟨_, rfl⟩
    have hit1 : h1.IsValIter it d (i + 1) es.size ep := ⟨_, eh1 ▸ Heap.get?_update_self _ ho (Obj.isFreed_of_fields (Obj.data_mapFields hd _)), (Obj.cls_mapFields ..).trans hc, by rw [Obj.data_mapFields hd]; simp [rawInt]⟩
    have k1 : ∀ b o, b ≠ it → s.heap.get? b = some o → h1.get? b = some o := fun b o hb g => eh1 ▸ (Heap.SameBut.update ..).extBut b o hb g
    rw [← eh1]
    have ty1 : Shared.TypeIs { s with heap := h1 } (.ref it) "dict_valueiterator" := let ⟨o, a, b, _⟩ := hit1; ⟨o, a, b⟩
    refine wpAny_bind (wpAny_holding (wpAny_bind (wpAny_isOneOf_valiter ty1 (wpAny_bind (wpAny_isOneOf_valiter ty1 ?_)))))
    exact wpAny_pure (wpAny_pure ⟨_, rfl, wpAny_pure (hItem e h1 he hit1 k1)⟩)
end


/-! dicts of things -/
inductive KV : List (Int × Int) → List (Int × Addr × Value) → Prop
  | nil : KV [] []
  | cons {k n : Int} {a : Addr} {t : Tok} {kv xs} : KV kv xs → KV ((k, n) :: kv) ((k, a, .int n t) :: xs)
theorem KV.length {kv xs} (x : KV kv xs) : xs.length = kv.length := by induction x with
  | nil => rfl
  | cons _ ih => simp [ih]
theorem KV.get {kv xs} (x : KV kv xs) : ∀ {i : Nat} {p : Int × Addr × Value}, xs[i]? = some p → ∃ n t, kv[i]? = some (p.1, n) ∧ p.2.2 = .int n t := by
  induction x with
  | nil => intro i p h; simp at h
  | @cons k n a t kv xs _ ih =>
    intro i p h
    cases i with
    | zero => simp at h; subst h; exact ⟨n, t, rfl, rfl⟩
    | succ i => simp at h; obtain ⟨n, t, h1, h2⟩ := ih h; exact ⟨n, t, by simpa using h1, h2⟩

def getK (kv : List (Int × Int)) (k : Int) : Option Int := (kv.find? fun p => decide (p.1 = k)).map (·.2)
def putK (kv : List (Int × Int)) (k n : Int) : List (Int × Int) := if (getK kv k).isSome then kv.map (fun p => if p.1 = k then (p.1, n) else p) else kv ++ [(k, n)]
theorem KV.atKey {kv xs} (x : KV kv xs) (k : Int) : (∀ n, getK kv k = some n → ∃ a t, PySem.atKey xs k = some (a, .int n t)) ∧ (getK kv k = none → PySem.atKey xs k = none) := by
  induction x with
  | nil => exact ⟨by simp [getK], by simp [PySem.atKey]⟩
  | @cons k' n a t kv xs _ ih =>
    unfold getK PySem.atKey at *
    rw [List.find?_cons, List.find?_cons]
    by_cases h : k' = k
    · simp only [h, decide_true, Option.map_some]
      exact ⟨fun m e => ⟨a, t, by simp at e; rw [e]⟩, by simp⟩
    · simp only [h, decide_false]
      exact ih
theorem KV.append {kv xs kv' xs'} (x : KV kv xs) (y : KV kv' xs') : KV (kv ++ kv') (xs ++ xs') := by induction x with
  | nil => exact y
  | cons _ ih => exact .cons ih
theorem KV.map {kv xs} (x : KV kv xs) (k n : Int) (t : Tok) : KV (kv.map fun p => if p.1 = k then (p.1, n) else p) (xs.map (putAt k (.int n t))) := by induction x with
  | nil => exact .nil
  | @cons k' n' a t' kv xs _ ih =>
    rw [List.map_cons, List.map_cons]
    unfold putAt
    by_cases h : k' = k
    · simp only [h, if_true]; exact .cons ih
    · simp only [h, if_false]; exact .cons ih
theorem KV.put {kv xs} (x : KV kv xs) (k n : Int) (a : Addr) (t : Tok) : KV (putK kv k n) (storedH xs k a (.int n t)) := by
  obtain ⟨h1, h2⟩ := x.atKey k
  unfold putK
  cases e : getK kv k with
  | none =>
    rw [storedH_new (h2 e)]
    exact x.append (.cons .nil)
  | some m =>
    obtain ⟨a', t', e'⟩ := h1 m e
    rw [storedH_old e']
    exact x.map k n t
theorem KV.keys {kv xs} (x : KV kv xs) : xs.map (·.1) = kv.map (·.1) := by induction x with
  | nil => rfl
  | cons _ ih => simp [ih]

def IsKV (prog : Program) (w : World) (kv : List (Int × Int)) (d : Addr) (h : Heap) : Prop := ∃ xs, h.DictOfH (thingKind prog w) d xs ∧ KV kv xs
def IsD (prog : Program) (w : World) (kv : List (Int × Int)) (v : Value) (h : Heap) : Prop := ∃ d, v = .ref d ∧ IsKV prog w kv d h ∧ (d == sysModules) = false
section
variable {prog : Program} {w : World}
theorem tupleKey_hd {K : Type} [DecidableEq K] {knd : PySem.KeyKind prog w K} {h h' : Heap} {ks : List K} {a : Addr} (x : IsTupleKey knd h ks a) (e : Hd h h') : IsTupleKey knd h' ks a :=
  let ⟨o, items, n, g, hc, hd, hi⟩ := x; ⟨o, items, n, e _ _ _ _ hd g, hc, hd, hi⟩
theorem IsKV.at {kv : List (Int × Int)} {d : Addr} {h h' : Heap} (x : IsKV prog w kv d h) (hd : ∀ o, h.get? d = some o → h'.get? d = some o) (e : Hd h h') : IsKV prog w kv d h' :=
  let ⟨xs, ⟨o, es, ep, g, hx, hdt, he, hk, hn⟩, y⟩ := x; ⟨xs, ⟨o, es, ep, hd _ g, hx, hdt, he, fun p hp => tupleKey_hd (hk p hp) e, hn⟩, y⟩
theorem IsKV.up {kv : List (Int × Int)} {d : Addr} {h h' : Heap} (x : IsKV prog w kv d h) (e : Ext h h') : IsKV prog w kv d h' :=
  let ⟨xs, ⟨o, es, ep, g, hx, hdt, he, hk, hn⟩, y⟩ := x; ⟨xs, ⟨o, es, ep, e.solid (solid_dict hdt) g, hx, hdt, he, fun p hp => tupleKey_hd (hk p hp) e.hd, hn⟩, y⟩
theorem IsKV.nodup {kv : List (Int × Int)} {d : Addr} {h : Heap} (x : IsKV prog w kv d h) : (kv.map (·.1)).Nodup := let ⟨xs, ⟨o, es, ep, g, hx, hdt, he, hk, hn⟩, y⟩ := x; y.keys ▸ hn
theorem IsKV.obj {kv : List (Int × Int)} {d : Addr} {h : Heap} (x : IsKV prog w kv d h) : ∃ o es ep, h.get? d = some o ∧ o.data = .dict es ep ∧ o.cls = .type "dict" ∧ es.size = kv.length ∧ o.dict = none ∧
    (∀ (i : Nat) (e : DictEntry), es[i]? = some e → ∃ (k n : Int) (a : Addr) (t : Tok), kv[i]? = some (k, n) ∧ e.key = .ref a ∧ e.val = .int n t ∧ IsTupleKey (mixKind prog w) h (keyOf k) a) := by
  obtain ⟨xs, ⟨o, es, ep, g, hx, hdt, he, hk, hn⟩, y⟩ := x
  refine ⟨o, es, ep, g, hdt, hx.1, by rw [size_of_entries he, y.length], hx.2.1, fun i e hi => ?_⟩
  rw [entry_at he] at hi
  cases hxi : xs[i]? with
  | none => rw [hxi] at hi; cases hi
  | some p =>
    rw [hxi] at hi
    cases hi
    obtain ⟨n, t, h1, h2⟩ := y.get hxi
    exact ⟨p.1, n, p.2.1, t, h1, rfl, h2, hk p (List.mem_of_getElem? hxi)⟩
theorem mono_D : Mono (IsD prog w) := fun _ _ _ _ e ⟨d, a, b, c⟩ => ⟨d, a, b.up e, c⟩
end

section
variable {prog : Program} {w : World} {A : Around} {h : Heap} {env : Env} {pos : Pos}

/-! the views -/
theorem view_items {d : Addr} {o : Obj} {s : Shared} {E : Value → Shared → Prop} {Q : Value → Shared → Prop} (ho : s.heap.get? d = some o) (hc : o.cls = .type "dict") (hd : (d == sysModules) = false)
    (h : Q (.ref s.heap.objs.size) { s with heap := s.heap.push { cls := .type "dict_items", data := .fields #[.ref d] } }) : wpAny (model prog w) A (call (.builtin "dict.items") [.ref d]) Q E s := by
  have ty : s.TypeIs (.ref d) "dict" := ⟨o, ho, hc⟩
  refine wpAny_call_entry PySem.F.slot_dict_items ty PySem.F.entry_dict_items ?_ (PySem.F.args_dict_items_1 _)
  unfold Builtin.«dict.items» Builtin.Dict.noArgs
  refine wpAny_bind (wpAny_bind (wpAny_notOrdered_dict ty ?_))
  show wpAny _ _ (pure d) _ _ s
  refine wpAny_pure ?_
  unfold Builtin.Dict.showsAll
  rw [if_neg (by rw [hd]; exact Bool.false_ne_true)]
  exact wpAny_bind (wpAny_pure (wpAny_bind (wpAny_newObj_type (wpAny_pure ⟨_, rfl, h⟩))))
theorem view_values {d : Addr} {o : Obj} {s : Shared} {E : Value → Shared → Prop} {Q : Value → Shared → Prop} (ho : s.heap.get? d = some o) (hc : o.cls = .type "dict") (hd : (d == sysModules) = false)
    (h : Q (.ref s.heap.objs.size) { s with heap := s.heap.push { cls := .type "dict_values", data := .fields #[.ref d] } }) : wpAny (model prog w) A (call (.builtin "dict.values") [.ref d]) Q E s := by
  have ty : s.TypeIs (.ref d) "dict" := ⟨o, ho, hc⟩
  refine wpAny_call_entry PySem.F.slot_dict_values ty PySem.F.entry_dict_values ?_ (PySem.F.args_dict_values_1 _)
  refine wpAny_bind ?_
  unfold Builtin.Dict.noArgs
  refine wpAny_bind (wpAny_notOrdered_dict ty ?_)
  show wpAny _ _ (pure d) _ _ s
  refine wpAny_pure ?_
  unfold Builtin.Dict.showsAll
  rw [if_neg (by rw [hd]; exact Bool.false_ne_true)]
  exact wpAny_bind (wpAny_pure (wpAny_bind (wpAny_newObj_type (wpAny_pure ⟨_, rfl, h⟩))))

def IsView (prog : Program) (w : World) (T : String) (d : Addr) (kv : List (Int × Int)) (v : Value) (h : Heap) : Prop := ∃ vw o, v = .ref vw ∧ h.get? vw = some o ∧ o.cls = .type T ∧ o.data = .fields #[.ref d] ∧ IsKV prog w kv d h
def AtD (prog : Program) (w : World) (d : Addr) (kv : List (Int × Int)) (v : Value) (h : Heap) : Prop := v = .ref d ∧ IsKV prog w kv d h ∧ (d == sysModules) = false
theorem mono_At (d : Addr) : Mono (AtD prog w d) := fun _ _ _ _ e ⟨a, b, c⟩ => ⟨a, b.up e, c⟩
theorem ev_items {o : PySem.Expr} {apos : Pos} {d : Addr} {kv : List (Int × Int)} (ho : Tr prog w A h (eval o env) (AtD prog w d kv)) (hline : (apos.endLine == pos.line) = true := by rfl) (hbase : attributeBase o "items" env (eval o env) = eval o env := by rfl) :
    Tr prog w A h (eval (.Call (.Attribute o "items" apos) [] [] pos) env) (IsView prog w "dict_items" d kv) := fun _ _ hx =>
  Call_method0 hbase hline (ho.go hx fun v s1 ⟨e, x, hs⟩ g1 => by
    subst e
    obtain ⟨o, es, ep, ho, hd, hc, _, hdn, _⟩ := x.obj
    refine ⟨"dict", "dict.items", PySem.F.plainAttrs_dict, PySem.F.slot_dict_items, PySem.F.type_dict_items, ⟨o, ho, hc⟩, (fun a e => by cases e; exact ⟨o, ho, hdn⟩), callWith_method0 (env := env) (view_items ho hc hs ?_)⟩
    exact ⟨⟨_, _, rfl, Heap.get?_push_size _ rfl, rfl, rfl, x.up (.push _ _)⟩, g1.trans (.mk' (.push _ _))⟩)
theorem ev_values {o : PySem.Expr} {apos : Pos} {d : Addr} {kv : List (Int × Int)} (ho : Tr prog w A h (eval o env) (AtD prog w d kv)) (hline : (apos.endLine == pos.line) = true := by rfl) (hbase : attributeBase o "values" env (eval o env) = eval o env := by rfl) :
    Tr prog w A h (eval (.Call (.Attribute o "values" apos) [] [] pos) env) (IsView prog w "dict_values" d kv) := fun _ _ hx =>
  Call_method0 hbase hline (ho.go hx fun v s1 ⟨e, x, hs⟩ g1 => by
    subst e
    obtain ⟨o, es, ep, ho, hd, hc, _, hdn, _⟩ := x.obj
    refine ⟨"dict", "dict.values", PySem.F.plainAttrs_dict, PySem.F.slot_dict_values, PySem.F.type_dict_values, ⟨o, ho, hc⟩, (fun a e => by cases e; exact ⟨o, ho, hdn⟩), callWith_method0 (env := env) (view_values ho hc hs ?_)⟩
    exact ⟨⟨_, _, rfl, Heap.get?_push_size _ rfl, rfl, rfl, x.up (.push _ _)⟩, g1.trans (.mk' (.push _ _))⟩)

theorem iter_items {vw d : Addr} {ov o : Obj} {es : Array DictEntry} {ep : Nat} {s : Shared} {E : Value → Shared → Prop} {Q : Value → Shared → Prop} (hv : s.heap.get? vw = some ov) (hvc : ov.cls = .type "dict_items") (hvd : ov.data = .fields #[.ref d]) (ho : s.heap.get? d = some o) (hd : o.data = .dict es ep)
    (hQ : Q (.ref s.heap.objs.size) { s with heap := s.heap.push { cls := .type "dict_itemiterator", data := .fields #[.none, .bool false, .ref d, .int 0 0, .int es.size 0, .int ep 0, .none, .none] } }) : wpAny (model prog w) A (pyIter (.ref vw)) Q E s := by
  have ty : s.TypeIs (.ref vw) "dict_items" := ⟨ov, hv, hvc⟩
  refine wpAny_pyIter_slot ty PySem.F.slot_dict_items_iter (wpAny_call_entry PySem.F.slot_dict_items_iter ty PySem.F.entry_dict_items_iter ?_ (PySem.F.args_dict_items_iter_1 _))
  unfold Builtin.«dict_items.__iter__» Builtin.Dict_items.dictOf
  refine wpAny_bind (wpAny_pure (wpAny_bind (wpAny_bind (wpAny_field hv hvd (x := .ref d) rfl (wpAny_pure ?_)))))
  unfold Builtin.Dict_items.newIterator
  refine wpAny_bind (wpAny_bind (wpAny_dictEntries ho hd (wpAny_bind (wpAny_dictEpoch ho hd ?_))))
  have own : Builtin.Dict_items.ownsTuple "dict_itemiterator" = true := by decide
  simp only [own, if_true]
  refine wpAny_newObj_type (wpAny_pure ⟨_, rfl, "dict_itemiterator", _, ⟨_, Heap.get?_push_size _ rfl, rfl⟩, PySem.F.slot_dict_itemiterator_next.lookup, ?_⟩) (by simp [sizeOk, Builtin.Dict_items.ownedTupleFields, sizeLine_eq])
  simpa [rawInt, Builtin.Dict_items.ownedTupleFields] using hQ
theorem iter_values {vw d : Addr} {ov o : Obj} {es : Array DictEntry} {ep : Nat} {s : Shared} {E : Value → Shared → Prop} {Q : Value → Shared → Prop} (hv : s.heap.get? vw = some ov) (hvc : ov.cls = .type "dict_values") (hvd : ov.data = .fields #[.ref d]) (ho : s.heap.get? d = some o) (hd : o.data = .dict es ep)
    (hQ : Q (.ref s.heap.objs.size) { s with heap := s.heap.push { cls := .type "dict_valueiterator", data := .fields #[.ref d, .int 0 0, .int es.size 0, .int ep 0] } }) : wpAny (model prog w) A (pyIter (.ref vw)) Q E s := by
  have ty : s.TypeIs (.ref vw) "dict_values" := ⟨ov, hv, hvc⟩
  refine wpAny_pyIter_slot ty PySem.F.slot_dict_values_iter (wpAny_call_entry PySem.F.slot_dict_values_iter ty PySem.F.entry_dict_values_iter ?_ (PySem.F.args_dict_values_iter_1 _))
  unfold Builtin.«dict_values.__iter__» Builtin.Dict_items.dictOf
  refine wpAny_bind (wpAny_pure (wpAny_bind (wpAny_bind (wpAny_field hv hvd (x := .ref d) rfl (wpAny_pure ?_)))))
  unfold Builtin.Dict_items.newIterator
  refine wpAny_bind (wpAny_bind (wpAny_dictEntries ho hd (wpAny_bind (wpAny_dictEpoch ho hd ?_))))
  have own : Builtin.Dict_items.ownsTuple "dict_valueiterator" = false := by decide
  simp only [own, Bool.false_eq_true, if_false]
  refine wpAny_newObj_type (wpAny_pure ⟨_, rfl, "dict_valueiterator", _, ⟨_, Heap.get?_push_size _ rfl, rfl⟩, PySem.F.slot_dict_valueiterator_next.lookup, ?_⟩)
  simpa [rawInt] using hQ

/-- the dict's table stands -/
def Raw (h : Heap) (d : Addr) (es : Array DictEntry) (ep : Nat) : Prop := ∃ o, h.get? d = some o ∧ o.data = .dict es ep
theorem Raw.at {h h' : Heap} {d : Addr} {es : Array DictEntry} {ep : Nat} (x : Raw h d es ep) (k : ∀ o, h.get? d = some o → h'.get? d = some o) : Raw h' d es ep := let ⟨o, a, b⟩ := x; ⟨o, k _ a, b⟩

theorem walks_values (hh : A.handled = none) (I d : Addr) (hne : d ≠ I) (es : Array DictEntry) (ep : Nat) :
    SrcOk prog w A I [I, d] [I] es.size (fun i v => ∃ e, es[i]? = some e ∧ v = e.val) (fun i h => h.IsValIter I d i es.size ep ∧ Raw h d es ep) where
  W := {
    sub := fun b hb => by simp at hb; simp [hb]
    frame := fun i h h' ⟨⟨o, e, c⟩, r⟩ hk => ⟨⟨o, hk I (by simp) _ e, c⟩, r.at fun o e => hk d (by simp) o e⟩
    item := fun i s Q E hi ⟨st, r⟩ hQ => by
      obtain ⟨od, g, gd⟩ := id r
      refine values_next hh st g gd (fun e h' he st' hk => hQ _ h' s.toks ⟨e, he, rfl⟩ ⟨st', r.at fun o e => hk d o hne e⟩ fun b o hb e => hk b o (by simpa using hb) e) fun he => ?_
      rw [Array.getElem?_eq_none_iff] at he; omega
    done := fun s Q E ⟨st, r⟩ hQ => by
      obtain ⟨od, g, gd⟩ := id r
      refine values_next hh st g gd (fun e h' he => ?_) fun _ h' hx => hQ h' s.toks fun b o hb e => hx b o (by simpa using hb) e
      have := (Array.getElem?_eq_some_iff.mp he).1; omega
    self := fun i s Q E ⟨st, r⟩ h => wpAny_pyIter_valiter st h }
  solid := fun i h ⟨⟨o, e, c, _⟩, ⟨o', e', d'⟩⟩ b hb => by
    simp at hb
    rcases hb with rfl | rfl
    · exact ⟨o, e, solid_cls (by rw [c]; simp)⟩
    · exact ⟨o', e', solid_dict d'⟩
  norec := fun i h ⟨⟨o, e, c, dd⟩, _⟩ b hb q => by
    simp at hb; subst hb
    rintro ⟨c, o', vs, t, e', g, hd', hv⟩
    cases e'
    rw [e] at g; cases g
    rw [dd] at hd'; cases hd'
    simp at hv
  fields := fun i h ⟨⟨o, e, c, dd⟩, _⟩ b hb => by
    simp at hb; subst hb
    exact ⟨o, _, e, dd⟩

theorem walks_items (hh : A.handled = none) (I d : Addr) (hne : d ≠ I) (es : Array DictEntry) (ep : Nat) :
    WalksT prog w A I [I, d] [I] es.size (fun i vals => ∃ e, es[i]? = some e ∧ vals = #[e.key, e.val]) (fun i h => (∃ ok ov, IsItemIter h I d i es.size ep ok ov) ∧ Raw h d es ep)
      (fun i T h => T ≠ I ∧ (∃ ok ov, IsItemIterOut h I d (i + 1) es.size ep ok ov T) ∧ Raw h d es ep) where
  sub := fun b hb => by simp at hb; simp [hb]
  frame := fun i h h' ⟨⟨ok, ov, e⟩, r⟩ hk => ⟨⟨ok, ov, hk I (by simp) _ e⟩, r.at fun o e => hk d (by simp) o e⟩
  item := fun i s Q E hi ⟨⟨ok, ov, st⟩, r⟩ hQ => by
    obtain ⟨od, g, gd⟩ := id r
    refine items_next hh st g gd (fun e h' he st' hT hk => ?_) fun he => ?_
    · exact hQ _ _ h' s.toks ⟨e, he, rfl⟩ (Nat.le_refl _) ⟨_, hT, rfl, _, rfl⟩ ⟨Nat.ne_of_gt (Heap.lt_size st), ⟨_, _, st'⟩, r.at fun o e => hk d o hne e⟩ fun b o hb e => hk b o (by simpa using hb) e
    · rw [Array.getElem?_eq_none_iff] at he; omega
  go := fun elts k pos i T s Q E ⟨hT, ⟨ok, ov, st⟩, r⟩ hQ =>
    wpAny_letOwnedTupleGo_items st fun h' e hs => hQ h' ⟨⟨ok, ov, e⟩, r.at fun o g => hs.extBut d o hne g⟩ fun b o hb g => hs.extBut b o (by simpa using hb) g
  apart := fun i T h ⟨hT, _⟩ => by simpa using hT
  done := fun s Q E ⟨⟨ok, ov, st⟩, r⟩ hQ => by
    obtain ⟨od, g, gd⟩ := id r
    refine items_next hh st g gd (fun e h' he => ?_) fun _ h' hx => hQ h' s.toks fun b o hb e => hx b o (by simpa using hb) e
    have := (Array.getElem?_eq_some_iff.mp he).1; omega
  self := fun i s Q E ⟨⟨ok, ov, st⟩, r⟩ h => kcp_self st h
end


section
variable {prog : Program} {w : World} {A : Around} {E : Value → Shared → Prop} {s₀ s : Shared} {env : Env} {m cm : Str → Option Value} {Q : Flow → Shared → Prop}

theorem noRec_item {h : Heap} {it d : Addr} {i n ep : Nat} {ok ov x : Value} (e : h.get? it = some { cls := .type "dict_itemiterator", dict := none, data := .fields #[x, .bool false, .ref d, .int i 0, .int n 0, .int ep 0, ok, ov], slots := #[] }) (q : Str) : ¬ h.CodeRec (.ref it) q := by
  rintro ⟨c, o, vs, t, e', g, hd, hv⟩
  cases e'
  rw [e] at g; cases g
  cases hd
  simp at hv

theorem for_items {xk xv : Str} {pk pv pt : Pos} {x1 : Nat} {body : List Stmt} {RES : Result → Shared → Prop} {kv : List (Int × Int)} {vw d : Addr} {ov : Obj} (hh : A.handled = none) (hv : s.heap.get? vw = some ov) (hvc : ov.cls = .type "dict_items") (hvd : ov.data = .fields #[.ref d])
    (hkv : IsKV prog w kv d s.heap) (F : Fm s₀ env m cm s) (hxk : env.kindOf xk = some .local) (hxv : env.kindOf xv = some .local)
    (V : List Addr) (hV : ∀ b ∈ V, ∃ o, s.heap.get? b = some o) (hdV : d ∉ V) (hL : env.locals ∈ V) (t0 : TabS s₀.heap)
    (I : Nat → (Str → Option Value) → (Str → Option Value) → Heap → Prop)
    (hI : ∀ i m cm h h', I i m cm h → (∀ b o, (∀ vs, o.data ≠ .fields vs) → h.get? b = some o → h'.get? b = some o) → I i m cm h')
    (h0 : I 0 m cm s.heap)
    (turn : ∀ i k n a t m cm s1 s2, kv[i]? = some (k, n) → IsTupleKey (mixKind prog w) s.heap (keyOf k) a → KM V s.heap s1.heap → Fm s₀ env m cm s1 → I i m cm s1.heap → Fm s₀ env (upd (upd m xk (.ref a)) xv (.int n t)) cm s2 → (∀ b o, b ≠ env.locals → s1.heap.get? b = some o → s2.heap.get? b = some o) →
      wpAny (model prog w) A (execs body env) (fun fl s3 => fl = .next ∧ (∃ m' cm', Fm s₀ env m' cm' s3 ∧ I (i + 1) m' cm' s3.heap) ∧ KM V s2.heap s3.heap) (fun _ _ => False) s2)
    (done : ∀ m' cm' s', Fm s₀ env m' cm' s' → I kv.length m' cm' s'.heap → KM V s.heap s'.heap → RES (.ok .next) s') :
    wpAny (model prog w) A (pyIter (.ref vw)) (fun it s₂ => codeAny (model prog w) A (.forLoop (.Tuple [.Name xk pk, .Name xv pv] x1 pt) it body [] env) RES s₂) E s := by
  obtain ⟨od, es, ep, hod, hdd, hdc, hsz, _, hget⟩ := hkv.obj
  refine iter_items hv hvc hvd hod hdd ?_
  have hdl : d < s.heap.objs.size := Heap.lt_size hod
  have hne : d ≠ s.heap.objs.size := Nat.ne_of_lt hdl
  have W := walks_items (prog := prog) (w := w) (A := A) hh s.heap.objs.size d hne es ep
  obtain ⟨It, hIt⟩ : ∃ It, It = s.heap.objs.size := ⟨_, rfl⟩
  rw [← hIt] at W ⊢
  have hItn : s.heap.get? It = none := get_none (by omega)
  have hItV : It ∉ V := fun hm => by obtain ⟨o, e⟩ := hV _ hm; rw [hItn] at e; cases e
  have hLd : env.locals ≠ d := fun e => hdV (e ▸ hL)
  have h0It : s₀.heap.get? It = none := fresh_back F.ext t0 hItn
  have hItL : It ≠ env.locals := fun e => by obtain ⟨o, _, _, g, _⟩ := F.ns; rw [← e, hItn] at g; cases g
  have hItC : ∀ n c, env.cells.lookup n = some c → It ≠ c := fun n c hc e => by obtain ⟨o, g, _⟩ := F.cell n c hc; rw [← e, hItn] at g; cases g
  have step1 : ∀ {s1 : Shared} {m1 cm1 : Str → Option Value} {h' : Heap} {tk : Nat}, Fm s₀ env m1 cm1 s1 → (∀ q, ¬ s1.heap.CodeRec (.ref It) q) → (∀ b o, b ∉ [It] → s1.heap.get? b = some o → h'.get? b = some o) → Fm s₀ env m1 cm1 { s1 with heap := h', toks := tk } :=
    fun F1 hr hk => F1.step (V := [It]) (fun b hb => by simp at hb; subst hb; exact ⟨h0It, hItL, hItC, hr⟩) hk
  have gPush : Go s { s with heap := s.heap.push { cls := .type "dict_itemiterator", data := .fields #[.none, .bool false, .ref d, .int 0 0, .int es.size 0, .int ep 0, .none, .none] } } := .mk' (.push _ _)
  refine codeAny_forLoop_any (fun k s' => ∃ m' cm' i, ((∃ ok ov, IsItemIter s'.heap It d i es.size ep ok ov) ∧ Raw s'.heap d es ep) ∧ Fm s₀ env m' cm' s' ∧ I i m' cm' s'.heap ∧ KM V s.heap s'.heap ∧ i ≤ es.size ∧ k = es.size + 1 - i) ?_ (es.size + 1)
    ⟨m, cm, 0, ⟨⟨_, _, by rw [hIt]; exact Heap.get?_push_size _ rfl⟩, od, Heap.get?_push_of_some _ hod, hdd⟩, F.go gPush, hI _ _ _ _ _ h0 (fun b o _ e => Heap.get?_push_of_some _ e), gPush.ext.km, Nat.zero_le _, rfl⟩
  rintro k s1 ⟨m1, cm1, i, st, F1, hI1, km, hi, rfl⟩
  have rec1 : ∀ q, ¬ s1.heap.CodeRec (.ref It) q := let ⟨⟨ok, ov, e⟩, _⟩ := st; noRec_item e
  have notf : ∀ {hA hB : Heap}, (∃ x ok ov, ∃ i' : Nat, hA.get? It = some { cls := .type "dict_itemiterator", dict := none, data := .fields #[x, .bool false, .ref d, .int i' 0, .int es.size 0, .int ep 0, ok, ov], slots := #[] }) → (∀ b o, b ∉ [It] → hA.get? b = some o → hB.get? b = some o) → ∀ b o, (∀ vs, o.data ≠ .fields vs) → hA.get? b = some o → hB.get? b = some o :=
    fun ⟨x, ok, ov, i', e⟩ hk b o nf g => hk b o (fun hm => by simp at hm; subst hm; rw [e] at g; cases g; exact nf _ rfl) g
  have kmI : ∀ {hA hB : Heap}, KM V s.heap hA → (∀ b o, b ∉ [It] → hA.get? b = some o → hB.get? b = some o) → KM V s.heap hB := fun x hk b o hb so e => hk b o (fun hm => by simp at hm; subst hm; rw [hItn] at e; cases e) (x b o hb so e)
  by_cases hlt : i < es.size
  · refine W.item i _ _ _ hlt st fun T vals h1 tk1 hPt hTs hT hMid k1 => ?_
    obtain ⟨e, he, rfl⟩ := hPt
    obtain ⟨kk, n, a, t, hkvi, hek, hev, hka⟩ := hget i e he
    have hTI : T ∉ [It] := W.apart _ _ _ hMid
    have F1' := step1 (tk := tk1) F1 rec1 k1
    have I1 : I i m1 cm1 h1 := hI _ _ _ _ _ hI1 (notf (let ⟨⟨ok, ov, e⟩, _⟩ := st; ⟨_, ok, ov, i, e⟩) k1)
    have km1 : KM V s.heap h1 := kmI km k1
    obtain ⟨_, ⟨ok1, ov1, st1⟩, r1⟩ := id hMid
    refine W.go _ _ _ i T _ _ _ hMid fun h2 st2 k2 => ?_
    have F2 : Fm s₀ env m1 cm1 { s1 with heap := h2, toks := tk1 } := step1 (s1 := { s1 with heap := h1, toks := tk1 }) (tk := tk1) F1' (noRec_item st1) k2
    have I2 : I i m1 cm1 h2 := hI _ _ _ _ _ I1 (notf ⟨_, ok1, ov1, i + 1, st1⟩ k2)
    have km2 : KM V s.heap h2 := kmI km1 k2
    have hT2 : h2.IsTuple T #[e.key, e.val] := hT.at fun o g => k2 T o hTI g
    rw [hek, hev] at hT2
    refine wpAny_assign_Tuple (items := #[.ref a, .int n t]) hh hT2 rfl rfl fun h3 x3 => ?_
    have g3 : Go { s1 with heap := h2, toks := tk1 } { s1 with heap := h3, toks := tk1 } := .mk' (ext_of_but x3)
    have F3 := F2.go g3
    refine inOrder2 (wpAny_assign_Name (F3.store hxk fun s4 F4 k4 => wpAny_assign_Name (F4.store hxv fun s5 F5 k5 => ?_)))
    have I3 : I i m1 cm1 h3 := hI _ _ _ _ _ I2 fun b o _ g => x3 b o (Nat.ne_of_lt (Heap.lt_size g)) g
    have km3 : KM V s.heap h3 := km2.trans g3.ext.km
    refine wpAny_mono (turn i kk n a t m1 cm1 { s1 with heap := h3, toks := tk1 } s5 hkvi hka km3 F3 I3 F5 fun b o hb g => k5 b o hb (k4 b o hb g)) (fun fl s6 h6 => ?_) fun _ _ f => f.elim
    obtain ⟨rfl, ⟨m', cm', F6, I6⟩, km6⟩ := h6
    have keepIt : ∀ b, b ∉ V → ∀ o, Solid o → h2.get? b = some o → s6.heap.get? b = some o := fun b hb o so g => km6 b o hb so (k5 b o (fun q => hb (q ▸ hL)) (k4 b o (fun q => hb (q ▸ hL)) (x3 b o (Nat.ne_of_lt (Heap.lt_size g)) g)))
    refine ⟨es.size + 1 - (i + 1), by omega, m', cm', i + 1, ?_, F6, I6, ?_, hlt, rfl⟩
    · obtain ⟨⟨ok2, ov2, e2⟩, od2, e2', d2⟩ := st2
      exact ⟨⟨ok2, ov2, keepIt _ hItV _ (solid_cls (by simp)) e2⟩, od2, keepIt _ hdV _ (solid_dict d2) e2', d2⟩
    · exact ((km3.trans (KM.of_but hL k4)).trans (KM.of_but hL k5)).trans km6
  · have hin : i = es.size := by omega
    subst hin
    refine W.done _ _ _ st fun h1 tk1 k1 => wpAny_execs_nil ?_
    refine done m1 cm1 _ (step1 F1 rec1 k1) ?_ (kmI km k1)
    rw [← hsz]
    exact hI _ _ _ _ _ hI1 (notf (let ⟨⟨ok, ov, e⟩, _⟩ := st; ⟨_, ok, ov, _, e⟩) k1)
end


def bump (d : List (Int × Int)) (p : Int × Int) : List (Int × Int) := putK d p.1 (match getK d p.1 with | some n => n + p.2 | none => p.2)
def addK (tgt src : List (Int × Int)) : List (Int × Int) := src.foldl bump tgt

theorem getK_none {kv : List (Int × Int)} {k : Int} (h : k ∉ kv.map (·.1)) : getK kv k = none := by
  unfold getK
  rw [Option.map_eq_none_iff, List.find?_eq_none]
  intro p hp
  have : p.1 ∈ kv.map (·.1) := List.mem_map_of_mem hp
  simp
  rintro rfl
  exact h this
theorem put_take {kv : List (Int × Int)} (hn : (kv.map (·.1)).Nodup) {i : Nat} {k n : Int} (hi : kv[i]? = some (k, n)) : putK (kv.take i) k n = kv.take (i + 1) := by
  have hlt : i < kv.length := (List.getElem?_eq_some_iff.mp hi).1
  have hnot : k ∉ (kv.take i).map (·.1) := by
    have h2 : kv.take (i + 1) = kv.take i ++ [(k, n)] := by rw [List.take_add_one, hi]; rfl
    have h3 : ((kv.take (i + 1)).map (·.1)).Nodup := by
      rw [List.map_take]
      exact (List.take_sublist _ _).nodup hn
    rw [h2, List.map_append, List.nodup_append] at h3
    intro hm
    exact h3.2.2 k hm k (by simp) rfl
  unfold putK
  rw [getK_none hnot]
  simp only [Option.isSome_none, Bool.false_eq_true, if_false]
  rw [List.take_add_one, hi]; rfl
theorem add_take (tgt src : List (Int × Int)) {i : Nat} {p : Int × Int} (hi : src[i]? = some p) : addK tgt (src.take (i + 1)) = bump (addK tgt (src.take i)) p := by
  unfold addK
  rw [List.take_add_one, hi, List.foldl_append]; rfl
theorem putK_len (kv : List (Int × Int)) (k n : Int) : (putK kv k n).length ≤ kv.length + 1 := by
  unfold putK; split <;> simp
theorem addK_len (tgt : List (Int × Int)) : ∀ src : List (Int × Int), (addK tgt src).length ≤ tgt.length + src.length := by
  intro src
  unfold addK
  induction src generalizing tgt with
  | nil => simp
  | cons p r ih =>
    rw [List.foldl_cons]
    have := ih (bump tgt p)
    have h2 := putK_len tgt p.1 (match getK tgt p.1 with | some n => n + p.2 | none => p.2)
    have h3 : (bump tgt p).length ≤ tgt.length + 1 := h2
    simp only [List.length_cons]
    omega

theorem KM.hd {V : List Addr} {h h' : Heap} (x : KM V h h') (hV : ∀ b ∈ V, ∃ o, h.get? b = some o ∧ ∀ xs n, o.data ≠ .seq xs n) : Hd h h' := fun b o xs n d e => x b o (fun hm => by
  obtain ⟨o', e', hn⟩ := hV b hm
  rw [e] at e'; cases e'
  exact hn _ _ d) (solid_seq d) e
theorem KM.mono {V W : List Addr} {h h' : Heap} (x : KM V h h') (hs : ∀ b ∈ V, b ∈ W) : KM W h h' := fun b o n s e => x b o (fun hm => n (hs b hm)) s e

section
variable {prog : Program} {w : World} {A : Around} {E : Value → Shared → Prop} {s : Shared}
theorem IsKV.nf {kv : List (Int × Int)} {d : Addr} {h h' : Heap} (x : IsKV prog w kv d h) (hk : ∀ b o, (∀ vs, o.data ≠ .fields vs) → h.get? b = some o → h'.get? b = some o) : IsKV prog w kv d h' := by
  obtain ⟨o, es, ep, g, hd, _⟩ := x.obj
  exact x.at (fun o' e => by rw [g] at e; cases e; exact hk _ _ (by rw [hd]; nofun) g) fun b o xs n d e => hk b o (by rw [d]; nofun) e
theorem set_D {kv : List (Int × Int)} {D a : Addr} {k n : Int} {t : Tok} {Q : Unit → Shared → Prop} (hu : A.units + 10 < cLine) (x : IsKV prog w kv D s.heap) (hk : IsTupleKey (mixKind prog w) s.heap (keyOf k) a) (hsz : kv.length ≤ 1000)
    (hQ : ∀ h' tk, IsKV prog w (putK kv k n) D h' → (∀ b o, b ≠ D → s.heap.get? b = some o → h'.get? b = some o) → Q () { s with heap := h', toks := tk }) : wpAny (model prog w) A (setItem (.ref D) (.ref a) (.int n t)) Q E s := by
  obtain ⟨xs, hd, y⟩ := x
  exact wpAny_setItem_heap (knd := thingKind prog w) (hsz := by rw [y.length]; show kv.length ≤ sizeLine; simp [sizeLine]; omega) (show A.units + 1 < cLine by omega) hk hd fun h' hm hs => hQ h' _ ⟨_, hm, y.put k n a t⟩ hs.extBut
theorem get_D {kv : List (Int × Int)} {D a : Addr} {k n : Int} {Q : Value → Shared → Prop} (hu : A.units + 10 < cLine) (x : IsKV prog w kv D s.heap) (hk : IsTupleKey (mixKind prog w) s.heap (keyOf k) a) (hn : getK kv k = some n)
    (hQ : ∀ t tk, Q (.int n t) { s with toks := tk }) : wpAny (model prog w) A (getItem (.ref D) (.ref a)) Q E s := by
  obtain ⟨xs, hd, y⟩ := x
  obtain ⟨a', t, e⟩ := (y.atKey k).1 n hn
  exact wpAny_getItem_heap (knd := thingKind prog w) (show A.units + 1 < cLine by omega) hk hd e (hQ t _)
theorem in_D {kv : List (Int × Int)} {D a : Addr} {k : Int} {Q : Value → Shared → Prop} (hu : A.units + 10 < cLine) (x : IsKV prog w kv D s.heap) (hk : IsTupleKey (mixKind prog w) s.heap (keyOf k) a) (hs : (D == sysModules) = false)
    (hQ : ∀ tk, Q (.bool (getK kv k).isSome) { s with toks := tk }) : wpAny (model prog w) A (compareOp .In (.ref a) (.ref D)) Q E s := by
  obtain ⟨xs, hd, y⟩ := x
  refine wpAny_in_heap (knd := thingKind prog w) (show A.units + 1 < cLine by omega) hk hs hd ?_
  have : (PySem.atKey xs k).isSome = (getK kv k).isSome := by
    cases e : getK kv k with
    | none => rw [(y.atKey k).2 e]; rfl
    | some n => obtain ⟨a', t, e'⟩ := (y.atKey k).1 n e; rw [e']; rfl
  rw [this]
  exact hQ _

theorem boot_tuple : bootBuiltins "tuple" = some (.type "tuple") := by decide +kernel
theorem tt_plainB {h : Heap} {env : Env} {e : PySem.Expr} {b : Bool} (he : Tr prog w A h (eval e env) (IsB b)) (hp : isTrue e env (eval e env) = (do let v ← eval e env; standAt e.pos; holding [v] (truthy v)) := by rfl) : Tr prog w A h (isTrue e env (eval e env)) (Is b) := fun _ _ hx =>
  isTrue_plain (he.go hx fun u s1 e g1 => by
    have e : u = .bool b := e
    subst e
    exact wpAny_truthy_bool ⟨rfl, g1⟩) hp
theorem bind21 (P : Params) (a b : Value) : bindArgs (fdOf P 21) ⟨[a, b], []⟩ = pure [(("target" : Str), a), (("source" : Str), b)] := rfl

theorem sysm {h : Heap} (G : Gl w h) : (h.objs.size == sysModules) = false := by
  have h66 : h.get? 66 = some (objOf w.params 66) := G.K 66 _ rfl
  have hlt : 66 < h.objs.size := Heap.lt_size h66
  rw [beq_eq_false_iff_ne]
  show h.objs.size ≠ 1
  omega
theorem ev_dict0 {h : Heap} {env : Env} {pos : Pos} (G : Gl w h) : TrN prog w A h (eval (.Dict [] [] pos) env) (IsD prog w []) := fun s E hx =>
  wpAny_Dict_empty ⟨⟨⟨_, rfl, ⟨[], .new _, .nil⟩, sysm (G.up hx)⟩, _, rfl, get_none (Nat.le_refl _)⟩, .mk' (.push _ _)⟩

theorem add_spec {h : Heap} (G : Gl w h) (hA : A.depth < recursionLimit) (hu : A.units + 100 < cLine) (hh : A.handled = none) {tgt src : List (Int × Int)} (ht : tgt.length ≤ 100) (hsl : src.length ≤ 100) {v u : Value} (hv : IsD prog w tgt v h) (hs : IsD prog w src u h) :
    TrN prog w A h (call (.ref 21) [v, u]) (IsD prog w (addK tgt src)) := fun s E hx => by
  refine call_fn (P := fun s v s' => (IsD prog w (addK tgt src) v s'.heap ∧ ∃ D, v = .ref D ∧ s.heap.get? D = none) ∧ Go s s') (fd := fdOf w.params 21) hA (G.K 21 _ rfl) rfl G.lim (fun h' e => codeRec_of (G.up e).K rfl) rfl (bind21 _ _ _) rfl (fun n x hx => ?_) (fun s₀ s env hx0 henv F => ?_) rfl rfl rfl s E hx
  · simp at hx
    rcases hx with rfl | rfl <;> exact .inl rfl
  · subst henv
    have G0 : Gl w s₀.heap := G.up hx0
    have hv0 := mono_D _ _ _ _ hx0 hv
    have hs0 := mono_D _ _ _ _ hx0 hs
    have hh' : (A.deeper (callEnvC (fdOf w.params 21) s₀.heap.objs.size 21)).handled = none := hh
    have hu' : (A.deeper (callEnvC (fdOf w.params 21) s₀.heap.objs.size 21)).units + 10 < cLine := by show A.units + 3 + 10 < cLine; omega
    refine wpAny_execs_cons (st_assign (Φ := fun v h => IsD prog w [] v h ∧ ∃ D, v = .ref D ∧ s.heap.get? D = none) F (fun s1 E1 e1 => wpAny_mono (ev_dict0 (G0.up F.ext) s1 E1 e1) (fun v s' ⟨⟨a, D, e, hn⟩, g⟩ => ⟨⟨a, D, e, fresh_back e1 (G0.up F.ext).tab hn⟩, g⟩) fun _ _ e => e) rfl fun v1 s1 s2 hv1 g1 F2 d2 k2 => ?_)
    obtain ⟨⟨D, rfl, hD, hDs⟩, D', e', hDn⟩ := hv1
    cases e'
    have hD0 : s₀.heap.get? D = none := fresh_back F.ext G0.tab hDn
    have hDL : D ≠ s₀.heap.objs.size := fun e => by obtain ⟨o, _, _, g, _⟩ := F.ns; rw [e] at hDn; rw [show (callEnvC (fdOf w.params 21) s₀.heap.objs.size 21).locals = s₀.heap.objs.size from rfl, hDn] at g; cases g
    have hD2 : IsKV prog w [] D s2.heap := hD.at (fun o e => k2 D o hDL e) d2
    obtain ⟨dv, rfl, hdv0, hdvs⟩ := id hv0
    obtain ⟨du, rfl, hdu0, hdus⟩ := id hs0
    have FD : ∀ {s3 : Shared} {m cm : Str → Option Value} {kv : List (Int × Int)} {h' : Heap} {tk : Nat}, Fm s₀ (callEnvC (fdOf w.params 21) s₀.heap.objs.size 21) m cm s3 → IsKV prog w kv D s3.heap → (∀ b o, b ≠ D → s3.heap.get? b = some o → h'.get? b = some o) → Fm s₀ (callEnvC (fdOf w.params 21) s₀.heap.objs.size 21) m cm { s3 with heap := h', toks := tk } :=
      fun F3 x hk => F3.step (V := [D]) (fun b hb => by
        simp at hb; subst hb
        obtain ⟨o, es, ep, g, hd, _⟩ := x.obj
        exact ⟨hD0, hDL, fun n c hc => by exact (nomatch hc), noRec_dict g hd⟩) fun b o hb e => hk b o (by simpa using hb) e
    have hdvD : dv ≠ D := fun e => by obtain ⟨o, _, _, g, _⟩ := hdv0.obj; rw [e, hD0] at g; cases g
    have hduD : du ≠ D := fun e => by obtain ⟨o, _, _, g, _⟩ := hdu0.obj; rw [e, hD0] at g; cases g
    have hdvL : dv ≠ s₀.heap.objs.size := fun e => by obtain ⟨o, _, _, g, _⟩ := hdv0.obj; exact absurd (Heap.lt_size g) (by rw [e]; exact Nat.lt_irrefl _)
    have hduL : du ≠ s₀.heap.objs.size := fun e => by obtain ⟨o, _, _, g, _⟩ := hdu0.obj; exact absurd (Heap.lt_size g) (by rw [e]; exact Nat.lt_irrefl _)
    have VS : ∀ {s3 : Shared} {m cm : Str → Option Value} {kv : List (Int × Int)}, Fm s₀ (callEnvC (fdOf w.params 21) s₀.heap.objs.size 21) m cm s3 → IsKV prog w kv D s3.heap → ∀ b ∈ [s₀.heap.objs.size, D], ∃ o, s3.heap.get? b = some o ∧ ∀ xs n, o.data ≠ .seq xs n := fun F3 x b hb => by
      simp at hb
      rcases hb with rfl | rfl
      · obtain ⟨o, _, _, g, d, _⟩ := F3.ns; exact ⟨o, g, by rw [d]; nofun⟩
      · obtain ⟨o, _, _, g, d, _⟩ := x.obj; exact ⟨o, g, by rw [d]; nofun⟩
    have hA' := hh'
    refine wpAny_execs_cons (st_for (ev_items ((F2.loc (x := "target") rfl rfl).trP (Φ := AtD prog w dv tgt) fun h' e => ⟨rfl, hdv0.up (F2.ext.trans e), hdvs⟩)) fun vw s3 hvw g3 => ?_)
    obtain ⟨vwa, ov, rfl, w1, w2, w3, w4⟩ := hvw
    have F3 := F2.go g3
    have hD3 := hD2.up g3.ext
    refine for_items hh' w1 w2 w3 w4 F3 rfl rfl [s₀.heap.objs.size, D] (fun b hb => let ⟨o, e, _⟩ := VS F3 hD3 b hb; ⟨o, e⟩) (by simp [hdvD, hdvL]) (.head _) G0.tab
      (fun i m cm h => m "source" = some (.ref du) ∧ m "new_callers" = some (.ref D) ∧ IsKV prog w (tgt.take i) D h) (fun i m cm h h' ⟨a, b, c⟩ hk => ⟨a, b, c.nf hk⟩) ⟨rfl, rfl, hD3⟩ ?_ ?_
    · rintro i k n a t m cm s4 s5 hi ha km F4 ⟨q1, q2, q3⟩ F5 k5
      have ha4 := tupleKey_hd ha (km.hd (VS F3 hD3))
      have h45 : Hd s4.heap s5.heap := F4.keepL k5
      have hD5 : IsKV prog w (tgt.take i) D s5.heap := q3.at (fun o e => k5 D o hDL e) h45
      refine wpAny_execs_cons (wpAny_Assign_Subscript ((F5.loc (x := "caller") rfl rfl).wp (by decide) ((F5.loc (x := "new_callers") rfl q2).wp (by decide) ((F5.loc (x := "func") rfl rfl).wp (by decide) (set_D hu' hD5 (tupleKey_hd ha4 h45) (by rw [List.length_take]; omega) fun h6 tk6 x6 k6 => wpAny_execs_nil ?_)))))
      refine ⟨rfl, ⟨_, _, FD F5 hD5 k6, q1, q2, ?_⟩, .of_but (a := D) (by simp) k6⟩
      rw [put_take hdv0.nodup hi] at x6
      exact x6
    · rintro m' cm' s6 F6 ⟨q1, q2, q3⟩ _
      rw [List.take_length] at q3
      refine wpAny_execs_cons (st_for (ev_items ((F6.loc (x := "source") rfl q1).trP (Φ := AtD prog w du src) fun h' e => ⟨rfl, hdu0.up (F6.ext.trans e), hdus⟩)) fun vw s7 hvw g7 => ?_)
      obtain ⟨vwb, ovb, rfl, y1, y2, y3, y4⟩ := hvw
      have F7 := F6.go g7
      have hD7 := q3.up g7.ext
      refine for_items hh' y1 y2 y3 y4 F7 rfl rfl [s₀.heap.objs.size, D] (fun b hb => let ⟨o, e, _⟩ := VS F7 hD7 b hb; ⟨o, e⟩) (by simp [hduD, hduL]) (.head _) G0.tab
        (fun i m cm h => m "new_callers" = some (.ref D) ∧ IsKV prog w (addK tgt (src.take i)) D h) (fun i m cm h h' ⟨b, c⟩ hk => ⟨b, c.nf hk⟩) ⟨q2, by simpa [addK] using hD7⟩ ?_ ?_
      · rintro i k n a t m cm s8 s9 hi ha km F8 ⟨p2, p3⟩ F9 k9
        have ha8 := tupleKey_hd ha (km.hd (VS F7 hD7))
        have h89 : Hd s8.heap s9.heap := F8.keepL k9
        have hD9 : IsKV prog w (addK tgt (src.take i)) D s9.heap := p3.at (fun o e => k9 D o hDL e) h89
        have ha9 := tupleKey_hd ha8 h89
        have hlen : (addK tgt (src.take i)).length ≤ 1000 := by have := addK_len tgt (src.take i); rw [List.length_take] at this; omega
        obtain ⟨kv, hkv⟩ : ∃ kv, kv = addK tgt (src.take i) := ⟨_, rfl⟩
        have hnext := add_take tgt src hi
        rw [← hkv] at hD9 hlen hnext
        refine wpAny_execs_cons (st_if (b := (getK kv k).isSome) (tt_cmp (Φ := IsV (.ref a)) (Ψ := AtD prog w D kv) ((F9.loc (x := "func") rfl rfl).tr) (fun h' e => ((F9.loc (x := "new_callers") rfl p2).up e).trP fun h'' e' => ⟨rfl, hD9.up (e.trans e'), hDs⟩) (fun x y h' h'' e1 e2 hx hy s E hs => ?_) rfl) fun s10 g10 => ?_)
        · obtain ⟨rfl, hy, _⟩ := hy
          have hx : x = .ref a := hx
          subst hx
          exact in_D hu' (hy.up hs) (tupleKey_hd ha9 ((e1.trans e2).trans hs).hd) hDs fun tk => ⟨rfl, .tok⟩
        · have F10 := F9.go g10
          have hD10 := hD9.up g10.ext
          have ha10 := tupleKey_hd ha9 g10.ext.hd
          cases e : getK kv k with
          | none =>
            simp only [Option.isSome_none, Bool.false_eq_true, if_false]
            refine wpAny_execs_cons (wpAny_Assign_Subscript ((F10.loc (x := "caller") rfl rfl).wp (by decide) ((F10.loc (x := "new_callers") rfl p2).wp (by decide) ((F10.loc (x := "func") rfl rfl).wp (by decide) (set_D hu' hD10 ha10 hlen fun h6 tk6 x6 k6 => wpAny_execs_nil (wpAny_execs_nil ?_))))))
            refine ⟨rfl, ⟨_, _, FD F10 hD10 k6, p2, ?_⟩, g10.ext.km.trans (.of_but (a := D) (by simp) k6)⟩
            rw [hnext]
            unfold bump
            rw [show getK kv (k, n).1 = none from e]
            exact x6
          | some n' =>
            simp only [Option.isSome_some, if_true]
            refine wpAny_execs_cons (st_if (b := false) (tt_plainB (ev_callB2 (Φ := IsI n) (Φ2 := IsV (.type "tuple")) ((G0.up F10.ext).bui rfl boot_isinstance (by decide) rfl rfl rfl rfl) (F10.loc (x := "caller") rfl rfl).trI (fun h' e => (((G0.up F10.ext).up e).bui rfl boot_tuple (by decide) rfl rfl rfl rfl).tr) fun x y h' h'' _ _ ⟨tx, hx⟩ hy => by
              have hy : y = .type "tuple" := hy
              subst hx; subst hy
              exact fun s E hs => IsiPair.int_tuple ⟨rfl, .tok⟩)) fun s11 g11 => ?_)
            have F11 := F10.go g11
            have hD11 := hD10.up g11.ext
            have ha11 := tupleKey_hd ha10 g11.ext.hd
            simp only [Bool.false_eq_true, if_false]
            refine wpAny_execs_cons (wpAny_AugAssign_SubscriptAny ((F11.loc (x := "new_callers") rfl p2).wp (by decide) ((F11.loc (x := "func") rfl rfl).wp (by decide) (get_D hu' hD11 ha11 e fun t12 tk12 => ?_))))
            have F12 := F11.go (Go.tok (tk := tk12))
            refine (F12.loc (x := "caller") rfl rfl).wp (by decide) (PyProof.Rows.iadd_int ?_)
            refine set_D (kv := kv) (D := D) hu' hD11 ha11 hlen fun h6 tk6 x6 k6 => ?_
            have F13 := FD (tk := tk6) (F11.go (Go.tok (tk := tk12 + 1))) hD11 k6
            refine wpAny_execs_nil (wpAny_execs_nil (wpAny_execs_nil ?_))
            refine ⟨rfl, ⟨_, _, F13, p2, ?_⟩, (g10.trans g11).ext.km.trans (.of_but (a := D) (by simp) k6)⟩
            rw [hnext]
            unfold bump
            rw [show getK kv (k, n).1 = some n' from e]
            exact x6
      · rintro m' cm' s11 F11 ⟨p2, p3⟩ _
        rw [List.take_length] at p3
        refine wpAny_execs_cons (st_ret (F11.loc (x := "new_callers") rfl p2).tr fun v s12 hv g12 => ?_)
        have hv : v = .ref D := hv
        subst hv
        exact ⟨⟨⟨D, rfl, p3.up g12.ext, hDs⟩, D, rfl, hD0⟩, (F11.go g12).Go⟩
end


/-- an iterable, for a comprehension -/
def IsSrcV {α : Type} (prog : Program) (w : World) (A : Around) (R : α → Value → Heap → Prop) (xs : List α) (v : Value) (h : Heap) : Prop :=
  ∀ (s : Shared) (Q : Value → Shared → Prop) (E : Value → Shared → Prop), Ext h s.heap →
    (∀ I fp wr P St h' tk, (∀ b o, s.heap.get? b = some o → h'.get? b = some o) → SrcOk prog w A I fp wr xs.length P St → (∀ i v, P i v → ∃ a, xs[i]? = some a ∧ ∀ h'', Ext s.heap h'' → R a v h'') →
      St 0 h' → (∀ b ∈ wr, s.heap.get? b = none) → (∀ b ∈ fp, b < h'.objs.size) → Q (.ref I) { s with heap := h', toks := tk }) → wpAny (model prog w) A (pyIter v) Q E s

section
variable {prog : Program} {w : World} {A : Around} {α β : Type}
theorem ev_compV {elt iter : PySem.Expr} {t : Str} {pt : Pos} {ifs : List PySem.Expr} {scope : Scope} {cl : List (Str × Addr)} {pos : Pos} {env : Env} {h : Heap}
    {R : α → Value → Heap → Prop} {S : β → Value → Heap → Prop} {xs : List α} (p : α → Bool) (f : α → β)
    (hclos : closureFor scope env = pure cl) (hcell : ∀ y ∈ scope.names, y.2 ≠ .cell) (hkind : scope.kind = .function) (hnames : ∀ y ∈ scope.names, y.2 = .local → scope.names.lookup y.1 = some .local) (hx : scope.names.lookup t = some .local)
    (hsz : xs.length ≤ sizeLine) (hSm : Mono S) (hSl : Loc S) (hsrc : Tr prog w A h (eval iter env) (IsSrcV prog w A R xs))
    (hbody : ∀ a v C H, a ∈ xs → Ext h H → R a v H → (∃ m, H.Ns C m ∧ m t = some v) →
      Tr prog w A H (testsOf ifs (compEnvC scope cl C env)) (Is (p a)) ∧
      (p a = true → ∀ (s' : Shared) E', Ext H s'.heap → wpAny (model prog w) A (eval elt (compEnvC scope cl C env)) (fun y s'' => (S (f a) y s''.heap ∧ ∀ l, y = .ref l → (∃ o, Solid o ∧ h.get? l = some o) ∨ s'.heap.get? l = none) ∧ Go s' s'') E' s'))
    (ht : TabS h) (hs : ∀ x, foldedSetIterable iter env x = pure x := by intro _; rfl) (s : Shared) (E : Value → Shared → Prop) (he : Ext h s.heap) :
    wpAny (model prog w) A (eval (.ListComp elt [⟨.Name t pt, iter, ifs, 0⟩] scope pos) env) (fun y s' => (IsL S ((xs.filter p).map f) y s'.heap ∧ ∃ D, y = .ref D ∧ s.heap.get? D = none) ∧ Go s s') E s := by
  refine eval_LC rfl (wpAny_comprehension_free (use := none) rfl hs hclos hkind hnames (hsrc.go he fun xv s₁ hxv g₁ => hxv s₁ _ _ (.refl _) fun I fp wr P St h' tk hk K hP h0 hwr hfp => ?_))
  refine block_local (RR := fun acc C => compPost (model prog w) A E none _ acc C) (hb := s₁.heap) (R := R) (S := S) (p := p) (f := f) hcell hkind hx K hsz hk hP hSm hSl hwr hfp h0 ?_ ?_
  · intro a v C H ha e hr hm
    obtain ⟨b1, b2⟩ := hbody a v C H ha ((he.trans g₁.ext).trans e) hr hm
    refine ⟨b1, fun hp s' E' e' => wpAny_mono (b2 hp s' E' e') (fun y s'' hy => ⟨⟨hy.1.1, fun l el => ?_⟩, hy.2⟩) fun _ _ x => x⟩
    rcases hy.1.2 l el with ⟨o, so, ho⟩ | hn
    · exact .inl ⟨o, so, (he.trans g₁.ext).solid so ho⟩
    · exact .inr hn
  · intro D C h'' tk' ys hD hC hD2 hDC hm hd hall hnv e
    obtain ⟨m, hm⟩ := hm
    refine ⟨m, hm, fun h₃ hs₃ => ?_⟩
    have k₃ : ∀ b o, b ∉ [C] → h''.get? b = some o → h₃.get? b = some o := fun b o hb' g => hs₃.extBut b o (by simpa using hb') g
    have e₃ : Ext s₁.heap h₃ := e.step (V := [C]) (fun b hb' => by simp at hb'; subst hb'; exact hC) (fun b hb' q => by simp at hb'; subst hb'; exact noRec_ns hm q) k₃
    refine ⟨⟨⟨D, ys.toList, rfl, hd.at fun o g => k₃ D o (by simpa using hDC) g, hall.loc hSl fun l hl o g => k₃ l o (by simpa using hnv l hl) g⟩, D, rfl, ?_⟩, ?_⟩
    · exact fresh_back g₁.ext (he.tab ht) hD
    · exact g₁.trans (.mk' e₃)

theorem src_values {d : Addr} {kv : List (Int × Int)} {v : Value} {h : Heap} (hh : A.handled = none) (x : IsView prog w "dict_values" d kv v h) : IsSrcV prog w A IsI (kv.map (·.2)) v h := by
  obtain ⟨vw, ov, rfl, w1, w2, w3, w4⟩ := x
  intro s Q E hx hQ
  obtain ⟨o, es, ep, g, hd, hc, hsz, _, hget⟩ := (w4.up hx).obj
  refine iter_values (hx.solid (solid_cls (by rw [w2]; nofun)) w1) w2 w3 g hd ?_
  have hne : d ≠ s.heap.objs.size := Nat.ne_of_lt (Heap.lt_size g)
  have K := walks_values (prog := prog) (w := w) (A := A) hh s.heap.objs.size d hne es ep
  rw [show es.size = (kv.map (·.2)).length from by rw [hsz, List.length_map]] at K
  refine hQ _ _ _ _ _ _ _ (fun b o e => Heap.get?_push_of_some _ e) K ?_ ⟨⟨_, Heap.get?_push_size _ rfl, rfl, by rw [hsz, List.length_map]; rfl⟩, o, Heap.get?_push_of_some _ g, hd⟩ ?_ ?_
  · rintro i v ⟨e, he, rfl⟩
    obtain ⟨k, n, a, t, h1, h2, h3, h4⟩ := hget i e he
    exact ⟨n, by rw [List.getElem?_map, h1]; rfl, fun _ _ => ⟨t, h3⟩⟩
  · intro b hb
    simp at hb; subst hb
    exact get_none (Nat.le_refl _)
  · intro b hb
    rw [Heap.size_push]
    simp at hb
    rcases hb with rfl | rfl
    · exact Nat.lt_succ_self _
    · exact Nat.lt_succ_of_lt (Heap.lt_size g)
end

section
variable {prog : Program} {w : World} {A : Around} {E : Value → Shared → Prop} {s₀ s : Shared} {env : Env} {m cm : Str → Option Value} {Q : Flow → Shared → Prop}

theorem for_vals {x : Str} {px : Pos} {body : List Stmt} {RES : Result → Shared → Prop} {kv : List (Int × Int)} {v : Value} {d : Addr} (hh : A.handled = none) (hv : IsView prog w "dict_values" d kv v s.heap) (F : Fm s₀ env m cm s) (hx : env.kindOf x = some .local) (hdL : d ≠ env.locals) (t0 : TabS s₀.heap)
    (I : Nat → (Str → Option Value) → Prop) (h0 : I 0 m)
    (turn : ∀ i n t m s2, kv[i]? = some n → I i m → Fm s₀ env (upd m x (.int n.2 t)) cm s2 →
      wpAny (model prog w) A (execs body env) (fun fl s3 => fl = .next ∧ (∃ m', Fm s₀ env m' cm s3 ∧ I (i + 1) m') ∧ KM [env.locals] s2.heap s3.heap) (fun _ _ => False) s2)
    (done : ∀ m' s', Fm s₀ env m' cm s' → I kv.length m' → RES (.ok .next) s') :
    wpAny (model prog w) A (pyIter v) (fun it s₂ => codeAny (model prog w) A (.forLoop (.Name x px) it body [] env) RES s₂) E s := by
  obtain ⟨vw, ov, rfl, w1, w2, w3, w4⟩ := hv
  obtain ⟨od, es, ep, g, hd, hc, hsz, _, hget⟩ := w4.obj
  refine iter_values w1 w2 w3 g hd ?_
  have hne : d ≠ s.heap.objs.size := Nat.ne_of_lt (Heap.lt_size g)
  have K := walks_values (prog := prog) (w := w) (A := A) hh s.heap.objs.size d hne es ep
  obtain ⟨It, hIt⟩ : ∃ It, It = s.heap.objs.size := ⟨_, rfl⟩
  rw [← hIt] at K ⊢
  have hItn : s.heap.get? It = none := get_none (by omega)
  have h0It : s₀.heap.get? It = none := fresh_back F.ext t0 hItn
  have hItL : It ≠ env.locals := fun e => by obtain ⟨o, _, _, g, _⟩ := F.ns; rw [← e, hItn] at g; cases g
  have hItC : ∀ n c, env.cells.lookup n = some c → It ≠ c := fun n c hc e => by obtain ⟨o, g, _⟩ := F.cell n c hc; rw [← e, hItn] at g; cases g
  refine codeAny_forLoop (fun k s' => ∃ m' i, (s'.heap.IsValIter It d i es.size ep ∧ Raw s'.heap d es ep) ∧ Fm s₀ env m' cm s' ∧ I i m' ∧ i ≤ es.size ∧ k = es.size + 1 - i) ?_ (es.size + 1)
    ⟨m, 0, ⟨⟨_, by rw [hIt]; exact Heap.get?_push_size _ rfl, rfl, rfl⟩, od, Heap.get?_push_of_some _ g, hd⟩, F.go (.mk' (.push _ _)), h0, Nat.zero_le _, rfl⟩
  rintro k s1 ⟨m1, i, st, F1, hI1, hi, rfl⟩
  have step1 : ∀ {h' : Heap} {tk : Nat}, (∀ b o, b ∉ [It] → s1.heap.get? b = some o → h'.get? b = some o) → Fm s₀ env m1 cm { s1 with heap := h', toks := tk } :=
    fun hk => F1.step (V := [It]) (fun b hb => by simp at hb; subst hb; exact ⟨h0It, hItL, hItC, K.norec i _ st _ (by simp)⟩) hk
  by_cases hlt : i < es.size
  · refine K.W.item i _ _ _ hlt st fun u h1 tk1 ⟨e, he, hu⟩ st1 k1 => ?_
    subst hu
    obtain ⟨kk, n, a, t, hkv, hk1, hk2, hk3⟩ := hget i e he
    rw [hk2]
    refine wpAny_assign_Name ((step1 (tk := tk1) k1).store hx fun s2 F2 k2 => ?_)
    refine wpAny_mono (turn i (kk, n) t m1 s2 hkv hI1 F2) (fun fl s3 h3 => ?_) fun _ _ f => f.elim
    obtain ⟨rfl, ⟨m', F3, I3⟩, km3⟩ := h3
    have keep : ∀ b, b ≠ env.locals → ∀ o, Solid o → h1.get? b = some o → s3.heap.get? b = some o := fun b hb o so g => km3 b o (by simpa using hb) so (k2 b o hb g)
    refine ⟨es.size + 1 - (i + 1), by omega, m', i + 1, ?_, F3, I3, hlt, rfl⟩
    obtain ⟨⟨o, e1, c1, d1⟩, o2, e2, d2⟩ := st1
    exact ⟨⟨o, keep _ hItL _ (solid_cls (by rw [c1]; nofun)) e1, c1, d1⟩, o2, keep _ hdL _ (solid_dict d2) e2, d2⟩
  · have hin : i = es.size := by omega
    subst hin
    refine K.W.done _ _ _ st fun h1 tk1 k1 => wpAny_execs_nil ?_
    exact done m1 _ (step1 k1) (by rw [← hsz]; exact hI1)

theorem bind28 (P : Params) (a : Value) : bindArgs (fdOf P 28) ⟨[a], []⟩ = pure [(("callers" : Str), a)] := rfl

theorem sum_take {l : List Int} {i : Nat} {n : Int} (h : l[i]? = some n) : (l.take (i + 1)).sum = (l.take i).sum + n := by
  rw [List.take_add_one, h, List.sum_append]; simp

theorem count_spec {h : Heap} (G : Gl w h) (hA : A.depth < recursionLimit) (hh : A.handled = none) {kv : List (Int × Int)} {v : Value} (hv : IsD prog w kv v h) : Tr prog w A h (call (.ref 28) [v]) (IsI (kv.map (·.2)).sum) := fun s E hx => by
  refine call_fn (P := fun s v s' => IsI (kv.map (·.2)).sum v s'.heap ∧ Go s s') (fd := fdOf w.params 28) hA (G.K 28 _ rfl) rfl G.lim (fun h' e => codeRec_of (G.up e).K rfl) rfl (bind28 _ _) rfl (fun n x hx => ?_) (fun s₀ s env hx0 henv F => ?_) rfl rfl rfl s E hx
  · simp at hx; subst hx; exact .inl rfl
  · subst henv
    have G0 : Gl w s₀.heap := G.up hx0
    obtain ⟨d, rfl, hd0, hds⟩ := mono_D _ _ _ _ hx0 hv
    have hdL : d ≠ s₀.heap.objs.size := fun e => by obtain ⟨o, _, _, g, _⟩ := hd0.obj; exact absurd (Heap.lt_size g) (by rw [e]; exact Nat.lt_irrefl _)
    refine wpAny_execs_cons (st_assign F ev_int rfl fun v1 s1 s2 hv1 g1 F2 d2 k2 => ?_)
    obtain ⟨t1, rfl⟩ := hv1
    refine wpAny_execs_cons (st_for (ev_values ((F2.loc (x := "callers") rfl rfl).trP (Φ := AtD prog w d kv) fun h' e => ⟨rfl, hd0.up (F2.ext.trans e), hds⟩)) fun vw s3 hvw g3 => ?_)
    refine for_vals (A := A.deeper (callEnvC (fdOf w.params 28) s₀.heap.objs.size 28)) hh hvw (F2.go g3) rfl hdL G0.tab (fun i m => ∃ t, m "nc" = some (.int ((kv.map (·.2)).take i).sum t)) ⟨t1, rfl⟩ ?_ ?_
    · rintro i n t m s4 hi ⟨tn, hm⟩ F4
      refine wpAny_execs_cons (wpAny_AugAssign_Name (wpAny_loadName_local (name := "nc") F4.kind rfl F4.ns (show upd m "calls" (.int n.2 t) "nc" = _ from hm) ((F4.loc (x := "calls") rfl rfl).wp (by decide) (PyProof.Rows.iadd_int ?_))))
      refine (F4.go (Go.tok (tk := s4.toks + 1))).store rfl fun s5 F5 k5 => wpAny_execs_nil ⟨rfl, ⟨_, F5, s4.toks, ?_⟩, .of_but (.head _) k5⟩
      · have : ((kv.map (·.2))[i]?) = some n.2 := by rw [List.getElem?_map, hi]; rfl
        rw [sum_take this]; rfl
    · rintro m' s' F' ⟨t, hm⟩
      refine wpAny_execs_cons (st_ret (F'.loc (x := "nc") rfl hm).trI fun v s6 hv g6 => ⟨?_, (F'.go g6).Go⟩)
      rw [show kv.length = (kv.map (·.2)).length from (List.length_map _).symm, List.take_length] at hv
      exact hv

/-! a dict of one thing; its length -/
theorem tup_key {h : Heap} {a : Addr} {k : Int} {t1 t2 t3 : Tok} (e : h.get? a = some { cls := .type "tuple", data := .seq [Value.str "in" t1, .int k t2, .str "lots" t3].toArray }) : IsTupleKey (mixKind prog w) h (keyOf k) a :=
  ⟨_, _, _, e, rfl, rfl, .cons (by show Value.isStrOf "in" (.str "in" t1) = true; simp [Value.isStrOf]) (.cons (by show Value.isInt k (.int k t2) = true; simp [Value.isInt]) (.cons (by show Value.isStrOf "lots" (.str "lots" t3) = true; simp [Value.isStrOf]) .nil))⟩

theorem ev_dict1 {h : Heap} {e : PySem.Expr} {k1 k2 k3 : Nat} {x1 : Nat} {k : Int} {pos tp p1 p2 p3 : Pos} (hu : A.units + 10 < cLine) (G : Gl w h) (he : Tr prog w A h (eval e env) (IsI k))
    (hs : starEach [.Constant (.str "in") k1 p1, e, .Constant (.str "lots") k2 p2] env = (false, eval (.Constant (.str "in") k1 p1) env) :: starEach [e, .Constant (.str "lots") k2 p2] env := by rfl)
    (hs2 : starEach [e, .Constant (.str "lots") k2 p2] env = (false, eval e env) :: starEach [.Constant (.str "lots") k2 p2] env := by rfl) (hs3 : starEach [.Constant (.str "lots") k2 p2] env = [(false, eval (.Constant (.str "lots") k2 p2) env)] := by rfl) :
    Tr prog w A h (eval (.Dict [some (.Tuple [.Constant (.str "in") k1 p1, e, .Constant (.str "lots") k2 p2] x1 tp)] [.Constant (.int 1) k3 p3] pos) env) (IsD prog w [(k, 1)]) := fun s E hx => by
  refine wpAny_Dict_any rfl rfl (by simp) (by simp) ?_
  have g1 : Go s { s with heap := s.heap.push { cls := .type "dict", data := .dict #[] } } := .mk' (.push _ _)
  have hD : IsKV prog w [] s.heap.objs.size (s.heap.push { cls := .type "dict", data := .dict #[] }) := ⟨[], .new _, .nil⟩
  have hne : s.heap.get? s.heap.objs.size = none := get_none (Nat.le_refl _)
  unfold pairTrees evalPairs
  refine wpAny_bind (wpAny_Tuple_spliced (args_cons (wpAny_Constant_str (args_cons (he.go (hx.trans (g1.ext)) fun v s2 hv g2 => args_cons (wpAny_Constant_str (args_nil ?_)) hs3) hs2)) hs))
  obtain ⟨tk, rfl⟩ := hv
  have g3 : Go s2 { s2 with toks := s2.toks + 1 } := .tok
  refine ⟨by simp [sizeLine], ?_⟩
  generalize hh3 : s2.heap.push { cls := .type "tuple", data := .seq [Value.str "in" (_ : Tok), .int k tk, .str "lots" s2.toks].toArray } = h3
  have gT : Go s2 { s2 with heap := h3, toks := s2.toks + 1 } := hh3 ▸ .mk' (.push _ _)
  have hkey : IsTupleKey (mixKind prog w) h3 (keyOf k) s2.heap.objs.size := tup_key (hh3 ▸ Heap.get?_push_size _ rfl)
  refine wpAny_bind (wpAny_holding (wpAny_bind (wpAny_Constant_int (wpAny_bind (wpAny_standAt (wpAny_pure ?_))))))
  refine wpAny_bind (wpAny_holding (wpAny_of_eq (a := []) rfl (wpAny_pure ?_)))
  have G4 : Go s { s2 with heap := h3, toks := s2.toks + 1 + 1 } := (g1.trans (Go.tok (tk := s.toks + 1))).trans ((g2.trans gT).trans .tok)
  have hD4 : IsKV prog w [] s.heap.objs.size h3 := hD.up (g2.ext.trans gT.ext)
  obtain ⟨xs, hx4, y4⟩ := hD4
  cases y4
  unfold storeAll
  rw [List.forIn_cons]
  refine wpAny_bind (wpAny_bind (wpAny_dictSet_heap (knd := thingKind prog w) (hsz := by simp [sizeLine]) (show A.units < cLine by omega) hkey hx4 fun h5 hm5 hs5 => wpAny_pure ?_))
  show wpAny _ _ (forIn [] _ _) _ _ _
  rw [List.forIn_nil]
  refine wpAny_pure ⟨⟨_, rfl, ⟨_, hm5, ?_⟩, sysm (G.up hx)⟩, ?_⟩
  · rw [storedH_new (by rfl)]
    exact .cons .nil
  · obtain ⟨o4, es4, ep4, e4, _, d4, _⟩ := hx4
    refine To.go (G4.to.trans ⟨h5, _, rfl⟩) (G4.ext.step (V := [s.heap.objs.size]) (fun b hb => by simp at hb; subst hb; exact hne) (fun b hb => by simp at hb; subst hb; exact noRec_dict e4 d4) fun b o hb e => hs5.extBut b o (by simpa using hb) e)

theorem len_D {h : Heap} {kv : List (Int × Int)} {v : Value} (hl : kv.length ≤ 1000) (hv : IsD prog w kv v h) : Tr prog w A h (call (.builtin "len") [v]) (IsI kv.length) := fun s E hx => by
  obtain ⟨d, rfl, hd, hds⟩ := mono_D _ _ _ _ hx hv
  obtain ⟨o, es, ep, g, hdd, hc, hsz, _⟩ := hd.obj
  have ty : s.TypeIs (.ref d) "dict" := ⟨o, g, hc⟩
  refine Calls.call_function_entry kind_len plain_len entry_len (args_len1 _) ?_
  unfold Builtin.«len»
  refine wpAny_bind (m := oneArg "len" _) (wpAny_pure (wpAny_bind (m := callSpecial? (.ref d) (Str.ofString "__len__")) (wpAny_callSpecial?_slot (name := Str.ofString "__len__") ty PySem.F.slot_dict_len (wpAny_call_entry PySem.F.slot_dict_len ty PySem.F.entry_dict_len ?_ (PySem.F.args_dict_len_1 _)))))
  show wpAny _ _ (dictSize d >>= _) _ _ s
  unfold dictSize
  refine wpAny_bind (wpAny_bind (wpAny_dictEntries g hdd (wpAny_pure ?_)))
  show wpAny _ _ (Builtin.Dict.pendingCount d >>= _) _ _ s
  refine wpAny_bind (wpAny_pendingCount_other hds (wpAny_ret_mkInt ?_))
  rw [Nat.add_zero, hsz]
  refine wpAny_bind (wpAny_holding (wpAny_pure (wpAny_bind (wpAny_letGo ?_))))
  show wpAny _ _ (if ((kv.length : Nat) : Int) < 0 then _ else _) _ _ _
  rw [if_neg (by omega)]
  show wpAny _ _ (if ((kv.length : Nat) : Int) ≥ 2 ^ 63 then _ else _) _ _ _
  rw [if_neg (by omega)]
  exact wpAny_bind (wpAny_mkInt (wpAny_pure ⟨_, rfl, ⟨_, rfl⟩, .tok⟩))
end


section
variable {prog : Program} {w : World} {A : Around} {h : Heap} {env : Env} {pos : Pos}

theorem evN_upto {α : Type} {R : α → Value → Heap → Prop} (hR : Mono R) (ht : TabS h) {value up : PySem.Expr} {p : Pos} {xs : List α} {k : Int} (hl : Tr prog w A h (eval value env) (IsL R xs)) (hi : Tr prog w A h (eval up env) (IsI k)) (h0 : 0 ≤ k) (hsz : xs.length ≤ 1000000)
    (hs : ∀ l u, subscripted (.Slice none (some up) none p) false (.ref l) (.ref u) = operate [.ref u, .ref l] (getItem (.ref l) (.ref u)) := by intro _ _; with_unfolding_all rfl) :
    TrN prog w A h (eval (.Subscript value (.Slice none (some up) none p) pos) env) (IsL R (xs.take k.toNat)) := fun s E he =>
  Subscript_ (hl.go he fun v s1 ⟨l, vs, e, pl, q⟩ g1 => wpAny_Slice (wpAny_evalPart_none (wpAny_evalPart_some ((hi.up (he.trans g1.ext)).go (.refl _) fun i s2 ⟨t, e'⟩ g2 => wpAny_evalPart_none (by
    subst e; subst e'
    have e1 := q.length
    have hl2 := (g2.ext.trans (Ext.push s2.heap { cls := .type "slice", data := .fields #[.none, .int k t, .none] })).plain pl
    refine tail_any (s := { s2 with heap := s2.heap.push { cls := .type "slice", data := .fields #[.none, .int k t, .none] } }) hl2.isList.typeIs slot_list_getitem.lookup
      (wpAny_getItem_list_slice hl2.isList (Heap.IsSliceOf.new _ _ _ _) .none (.int k t) .none (by decide) ?_ (by simp [sizeLine]; omega)) (hs _ _)
    have hk : slicePick vs.toArray none (some k) none = (vs.take k.toNat).toArray := by
      have := slicePick_upto' vs.toArray k.toNat
      rw [Int.toNat_of_nonneg h0] at this
      simpa using this
    rw [hk]
    exact ⟨⟨⟨_, vs.take k.toNat, rfl, ⟨0, by have := Heap.get?_push_size (s2.heap.push { cls := .type "slice", data := .fields #[.none, .int k t, .none] }) (o := { cls := .type "list", data := .seq (vs.take k.toNat).toArray }) rfl; simpa using this⟩,
      (q.take _).up hR (g2.ext.trans ((Ext.push _ _).trans (.push _ _)))⟩, _, rfl, fresh_back ((g1.trans g2).ext.trans (.push _ _)) (he.tab ht) (get_none (Nat.le_refl _))⟩, (g1.trans g2).trans (.mk' ((Ext.push _ _).trans (.push _ _)))⟩)))))

theorem bind49 (P : Params) (a : Value) : bindArgs (fdOf P 49) ⟨[a], []⟩ = pure [(("number" : Str), a)] := rfl

theorem digs_len (a : Nat) : (digs a).length = Builtin.Int.intBits a := by unfold digs; rw [setBits_len, List.length_replicate]

theorem lot_spec (G : Gm w h) (hA : A.depth + 21 < recursionLimit) (hh : A.handled = none) {a : Nat} (ha : a < 1024) {t : Tok} : TrN prog w A h (call (.ref 49) [.int (a : Int) t]) (IsL IsI (bits10 a)) := fun s E hx => by
  have f1 := (bits_facts a ha).1
  have f5 := digs_eq a ha
  refine call_fn (P := fun s v s' => (IsL IsI (bits10 a) v s'.heap ∧ ∃ D, v = .ref D ∧ s.heap.get? D = none) ∧ Go s s') (fd := fdOf w.params 49) (by omega) (G.gl.K 49 _ rfl) rfl G.gl.lim (fun h' e => codeRec_of (G.gl.up e).K rfl) rfl (bind49 _ _) rfl (fun n x hx => ?_) (fun s₀ s env hx0 henv F => ?_) rfl rfl rfl s E hx
  · simp at hx; subst hx; exact .inl rfl
  · subst henv
    have G0 : Gm w s₀.heap := G.up hx0
    have G1 := G0.up F.ext
    have hh' : (A.deeper (callEnvC (fdOf w.params 49) s₀.heap.objs.size 49)).handled = none := hh
    have o35 : s.heap.get? 35 = some (objOf w.params 35) := G1.gl.K 35 _ rfl
    refine wpAny_execs_cons (wpAny_Return_some ?_)
    refine wpAny_mono (evN_upto (hs := ?hs) (xs := digs a ++ List.replicate (10 : Int).toNat 0) (k := 10) mono_I G1.gl.tab (ev_addL mono_I (ev_callF2 (Φ := IsI a) (Φ2 := IsI 1) (G1.gl.fn (x := "_int2digits") rfl rfl rfl rfl) o35 rfl (F.loc (x := "number") rfl rfl).trI (fun _ _ => ev_int) fun v u h' h'' e1 e2 ⟨tv, hv⟩ ⟨tu, hu⟩ => ?c1) (ev_mulL mono_I (ev_list1 mono_I ev_int rfl) ev_int (by decide) (by decide)) ?c2) ev_int (by decide) ?c3 s _ (.refl _)) (fun v s' ⟨⟨h1, D, e, hn⟩, g⟩ => ⟨⟨?_, D, e, fresh_back F.ext G0.gl.tab hn⟩, F.Go.trans g⟩) fun _ _ e => e
    case hs => intro _ _; with_unfolding_all rfl
    case c1 =>
      subst hv; subst hu
      exact (int2digits_spec ((G1.up e1).up e2) (by show A.depth + 1 + 20 < recursionLimit; omega) hh' ha).tr
    case c2 => rw [digs_len, List.length_replicate]; show _ + 10 ≤ _; have : Builtin.Int.intBits (a : Int) ≤ 10 := f1; omega
    case c3 => rw [List.length_append, digs_len, List.length_replicate]; show _ + 10 ≤ _; have : Builtin.Int.intBits (a : Int) ≤ 10 := f1; omega
    · have : (digs a ++ List.replicate 10 0).take 10 = bits10 a := f5
      rw [show (10 : Int).toNat = 10 from rfl, this] at h1
      exact h1

theorem noRec_pair {h : Heap} {b : Addr} {x y : Value} (e : IsPair h b x y) (q : Str) : ¬ h.CodeRec (.ref b) q := by
  rintro ⟨c, o, vs, t, e', g, hd, _⟩
  cases e'
  rw [e] at g; cases g
  cases hd
theorem noRec_iter {h : Heap} {b l : Addr} {i : Nat} (e : h.IsListIter b l i) (q : Str) : ¬ h.CodeRec (.ref b) q := by
  obtain ⟨o, e, _, d⟩ := e
  rintro ⟨c, o', vs, t, e', g, hd, hv⟩
  cases e'
  rw [e] at g; cases g
  rw [d] at hd; cases hd
  simp at hv
theorem noRec_zip {h : Heap} {z TI TO : Addr} {x : Value} (e : IsZip h z TI TO x) (q : Str) : ¬ h.CodeRec (.ref z) q := by
  rintro ⟨c, o', vs, t, e', g, hd, hv⟩
  cases e'
  rw [e] at g; cases g
  cases hd
  simp at hv

theorem loopT {elt target iter : PySem.Expr} {ifs : List PySem.Expr} {scope : Scope} {it acc : Value} {cenv : Env} {R : Result → Shared → Prop} {s : Shared} (I : Nat → Shared → Prop)
    (turn : ∀ n s, I n s → wpAny (model prog w) A (pyNext it) (fun r s₁ => match r with
      | none => R (.ok .next) s₁
      | some v => wpAny (model prog w) A (letOwnedTupleGo target it v) (fun _ s₂ => wpAny (model prog w) A (assign target cenv v) (fun _ s₃ => wpAny (model prog w) A (testsOf ifs cenv) (fun ok s₄ => ok = false ∧ ∃ m, m < n ∧ I m s₄)
          (notedBy (model prog w) A cenv fun e s' => R (.error e) s') s₃) (notedBy (model prog w) A cenv fun e s' => R (.error e) s') s₂) (notedBy (model prog w) A cenv fun e s' => R (.error e) s') s₁) (notedBy (model prog w) A cenv fun e s' => R (.error e) s') s)
    (n : Nat) (h0 : I n s) : codeAny (model prog w) A (.compLoop (.ListComp elt [⟨target, iter, ifs, 0⟩] scope pos) 0 it acc cenv) R s := by
  refine codeAny_loop rfl I (fun n s hI => ?_) n h0
  show wpAny _ A ((compTurn (.ListComp elt [⟨target, iter, ifs, 0⟩] scope pos) 0 it acc cenv).onRaise (fun x => do noteFrame x cenv; theTreesLotGoes x)) _ _ s
  rw [compTurn_list]
  refine wpAny_noted (wpAny_bind (wpAny_standAt (wpAny_bind (wpAny_mono (turn n s hI) (fun r s₁ h₁ => ?_) fun _ _ h' => h'))))
  cases r with
  | none => exact wpAny_pure h₁
  | some v =>
    refine wpAny_bind (wpAny_mono h₁ (fun _ s₂ h₂ => wpAny_bind (wpAny_mono h₂ (fun _ s₃ h₃ => wpAny_bind (wpAny_mono h₃ (fun ok s₄ h₄ => ?_) fun _ _ h' => h')) fun _ _ h' => h')) fun _ _ h' => h')
    obtain ⟨rfl, h₄⟩ := h₄
    exact wpAny_pure ⟨rfl, h₄⟩

/-! a comprehension over two lists side by side, of which nothing passes the test -/
theorem ev_zipNone {α β : Type} {R1 : α → Value → Heap → Prop} {R2 : β → Value → Heap → Prop} (hR1 : Mono R1) (hR2 : Mono R2) {elt c : PySem.Expr} {x y a b zf : Str} {px py pa pb pz tp pcl : Pos} {k : Nat} {scope : Scope} {cl : List (Str × Addr)} {xs : List α} {ys : List β} {v1 v2 : Value}
    (hclos : closureFor scope env = pure cl) (hcell : ∀ y ∈ scope.names, y.2 ≠ .cell) (hkind : scope.kind = .function) (hnames : ∀ y ∈ scope.names, y.2 = .local → scope.names.lookup y.1 = some .local) (hx : scope.names.lookup x = some .local) (hy : scope.names.lookup y = some .local)
    (hxy : x ≠ y) (hh : A.handled = none) (ht : TabS h) (hlen : xs.length = ys.length) (h1 : IsL R1 xs v1 h) (h2 : IsL R2 ys v2 h) (rz : Rd env zf (.type "zip") h) (ra : Rd env a v1 h) (rb : Rd env b v2 h)
    (htest : ∀ (i : Nat) p q v u C H m, xs[i]? = some p → ys[i]? = some q → Ext h H → R1 p v H → R2 q u H → H.Ns C m → m x = some v → m y = some u → Tr prog w A H (testsOf [c] (compEnvC scope cl C env)) (Is false))
    (hs : starEach [.Name a pa, .Name b pb] env = (false, eval (.Name a pa) env) :: starEach [.Name b pb] env := by rfl) (hs2 : starEach [.Name b pb] env = [(false, eval (.Name b pb) env)] := by rfl)
    (hda : (a == ("__debug__" : Str)) = false := by decide) (hdb : (b == ("__debug__" : Str)) = false := by decide) (hdz : (zf == ("__debug__" : Str)) = false := by decide) :
    Tr prog w A h (eval (.ListComp elt [⟨.Tuple [.Name x px, .Name y py] k tp, .Call (.Name zf pz) [.Name a pa, .Name b pb] [] pcl, [c], 0⟩] scope pos) env) (IsL IsI []) := fun s E he => by
  refine eval_LC rfl (wpAny_comprehension_free (use := none) rfl (fun _ => rfl) hclos hkind hnames ?_)
  refine Call_ ((rz.up he).wp hdz (callWith_type1 (args_cons ((ra.up he).wp hda (args_cons ((rb.up he).wp hdb (args_nil ?_)) hs2)) hs) hs (by rw [hs2]; rfl)))
  obtain ⟨l1, vs1, rfl, p1, q1⟩ := mono_L hR1 _ _ _ _ he h1
  obtain ⟨l2, vs2, rfl, p2, q2⟩ := mono_L hR2 _ _ _ _ he h2
  have lt1 : l1 < s.heap.objs.size := let ⟨_, e⟩ := p1; Heap.lt_size e
  have lt2 : l2 < s.heap.objs.size := let ⟨_, e⟩ := p2; Heap.lt_size e
  refine call_zip_2 p1.isList p2.isList fun h' a1 a2 a3 a4 a5 hsz hk => wpAny_pyIter_zip a1 ?_
  obtain ⟨N, hN⟩ : ∃ N : Nat, N = s.heap.objs.size := ⟨_, rfl⟩
  rw [← hN] at a1 a2 a3 a4 a5 hsz lt1 lt2 ⊢
  have lt1' : (l1 : Nat) < N := lt1
  have lt2' : (l2 : Nat) < N := lt2
  have ne1 : ∀ j : Nat, l1 ≠ N + j := fun j => Nat.ne_of_lt (Nat.lt_of_lt_of_le lt1' (Nat.le_add_right _ _))
  have ne2 : ∀ j : Nat, l2 ≠ N + j := fun j => Nat.ne_of_lt (Nat.lt_of_lt_of_le lt2' (Nat.le_add_right _ _))
  have AP : ZipApart (N + 4) (N + 2) (N + 3) N (N + 1) l1 l2 := by
    constructor <;> first | exact ne1 _ | exact ne2 _ | exact ne1 0 | exact ne2 0 | simp
  have W := WalksT.zip2 (prog := prog) (w := w) (A := A) hh (N + 4) (N + 2) (N + 3) N (N + 1) l1 l2 AP vs1.toArray vs2.toArray
  have none_of : ∀ a : Nat, N ≤ a → s.heap.get? a = none := fun a ha => get_none (by rw [← hN]; exact ha)
  have fr : ∀ b ∈ [N + 4, N + 3, N, N + 1], s.heap.get? b = none := fun b hb => by
    simp at hb
    rcases hb with rfl | rfl | rfl | rfl <;> exact none_of _ (by omega)
  have p1' : h'.IsList l1 vs1.toArray := let ⟨n, e⟩ := p1; Heap.PlainList.isList ⟨n, hk _ _ e⟩
  have p2' : h'.IsList l2 vs2.toArray := let ⟨n, e⟩ := p2; Heap.PlainList.isList ⟨n, hk _ _ e⟩
  refine wpAny_newObj_type (wpAny_newFunctionEnv hcell (by intro y hy; simp at hy) (fun h₁ hns₁ hsb₁ => ?_) hkind)
  dsimp only at hns₁ hsb₁ ⊢
  generalize hH2 : h'.push { cls := .type "list", dict := none, data := .seq ([] : List Value).toArray } = H2 at hns₁ hsb₁ ⊢
  have hC : H2.objs.size = N + 6 := by rw [← hH2, Heap.size_push, hsz]
  have old : ∀ b o, h'.get? b = some o → h₁.get? b = some o := fun b o e => hsb₁.extBut b o (by
    have := Heap.lt_size e
    rw [hsz] at this
    rw [hC]; exact Nat.ne_of_lt (Nat.lt_succ_of_lt this)) (Heap.get?_push_of_some _ (hH2 ▸ Heap.get?_push_of_some _ e))
  rw [hsz]
  have hacc : h₁.PlainList (N + 5) #[] := ⟨_, hsb₁.extBut _ _ (by rw [hC]; simp) (Heap.get?_push_of_some _ (hH2 ▸ hsz ▸ Heap.get?_push_size _ rfl))⟩
  rw [hC] at hns₁ ⊢
  have st0 := W.frame 0 h' h₁ ⟨a1, a2, ⟨_, _, a3⟩, a4, a5, p1', p2'⟩ fun b _ o e => old b o e
  have run : ∀ s₃ : Shared, To s s₃ → s₃.heap = h₁ → codeAny (model prog w) A (.compStart (.ListComp elt [⟨.Tuple [.Name x px, .Name y py] k tp, .Call (.Name zf pz) [.Name a pa, .Name b pb] [] pcl, [c], 0⟩] scope pos) 0 (.ref (N + 4)) (.ref (N + 5)) (compEnvC scope cl (N + 6) env))
      (compPost (model prog w) A E none (fun v s' => IsL IsI [] v s'.heap ∧ Go s s') (.ref (N + 5)) (N + 6)) s₃ := by
    rintro s₃ hto rfl
    have hD0 : s.heap.get? (N + 5) = none := none_of _ (by omega)
    have hC0 : s.heap.get? (N + 6) = none := none_of _ (by omega)
    have nrec : ∀ {H : Heap} {f : Value} {i j : Nat}, IsZip H (N + 4) (N + 2) (N + 3) f → (∃ a b, IsPair H (N + 3) a b) → H.IsListIter N l1 i → H.IsListIter (N + 1) l2 j → ∀ b ∈ [N + 4, N + 3, N, N + 1], ∀ q, ¬ H.CodeRec (.ref b) q := fun b1 b2 b3 b4 b hb q => by
      simp at hb
      rcases hb with rfl | rfl | rfl | rfl
      · exact noRec_zip b1 q
      · obtain ⟨_, _, b2⟩ := b2; exact noRec_pair b2 q
      · exact noRec_iter b3 q
      · exact noRec_iter b4 q
    have loop : codeAny (model prog w) A (.compLoop (.ListComp elt [⟨.Tuple [.Name x px, .Name y py] k tp, .Call (.Name zf pz) [.Name a pa, .Name b pb] [] pcl, [c], 0⟩] scope pos) 0 (.ref (N + 4)) (.ref (N + 5)) (compEnvC scope cl (N + 6) env))
        (compPost (model prog w) A E none (fun v s' => IsL IsI [] v s'.heap ∧ Go s s') (.ref (N + 5)) (N + 6)) s₃ := by
      have hz1 : vs1.toArray.size = xs.length := by simpa using q1.length
      have hz2 : vs2.toArray.size = xs.length := by rw [hlen]; simpa using q2.length
      rw [hz1, hz2, Nat.min_self] at W
      refine loopT (fun kk s' => ∃ i m, (IsZip s'.heap (N + 4) (N + 2) (N + 3) .none ∧ IsPair s'.heap (N + 2) (.ref N) (.ref (N + 1)) ∧ (∃ a b, IsPair s'.heap (N + 3) a b) ∧ s'.heap.IsListIter N l1 i ∧ s'.heap.IsListIter (N + 1) l2 i ∧ s'.heap.IsList l1 vs1.toArray ∧ s'.heap.IsList l2 vs2.toArray) ∧ s'.heap.Ns (N + 6) m ∧ s'.heap.PlainList (N + 5) #[] ∧ Ext s.heap s'.heap ∧ To s s' ∧ i ≤ xs.length ∧ kk = xs.length + 1 - i) ?_ (xs.length + 1)
        ⟨0, _, st0, hns₁, hacc, .of_keep fun b o e => old b o (hk b o e), hto, Nat.zero_le _, rfl⟩
      rintro kk s4 ⟨i, m, st, ns4, d4, e4, to4, hi, rfl⟩
      have rec4 := nrec st.1 st.2.2.1 st.2.2.2.1 st.2.2.2.2.1
      by_cases hlt : i < xs.length
      · refine W.item i _ _ _ hlt st fun T vals h5 tk5 hPt hTs hT hMid k5 => ?_
        obtain ⟨v, u, hv, hu, rfl⟩ := hPt
        have e5 : Ext s.heap h5 := e4.step fr rec4 k5
        have rec5 := nrec hMid.1 hMid.2.2.1 hMid.2.2.2.1 hMid.2.2.2.2.1
        have hTw := W.apart _ _ _ hMid
        refine W.go _ _ _ i T _ _ _ hMid fun h6 st6 k6 => ?_
        have e6 : Ext s.heap h6 := e5.step fr rec5 k6
        have hT6 : h6.IsTuple T #[v, u] := hT.at fun o g => k6 T o hTw g
        refine wpAny_assign_Tuple (items := #[v, u]) hh hT6 rfl rfl fun h7 x7 => ?_
        have e7 : Ext s.heap h7 := e6.trans (ext_of_but x7)
        have k47 : ∀ b o, b ∉ [N + 4, N + 3, N, N + 1] → s4.heap.get? b = some o → h7.get? b = some o := fun b o hb g => x7 b o (Nat.ne_of_lt (Heap.lt_size (k6 b o hb (k5 b o hb g)))) (k6 b o hb (k5 b o hb g))
        have ns7 : h7.Ns (N + 6) m := ns4.at' fun o g => k47 _ o (by simp) g
        have d7 : h7.PlainList (N + 5) #[] := d4.at fun o g => k47 _ o (by simp) g
        refine inOrder2 (wpAny_assign_Name (wpAny_storeName_local (lookup_relabel_local hx) ns7 (fun h8 ns8 hs8 => ?_) (by simp [compEnvC, relabel, hkind])))
        refine wpAny_assign_Name (wpAny_storeName_local (lookup_relabel_local hy) ns8 (fun h9 ns9 hs9 => ?_) (by simp [compEnvC, relabel, hkind]))
        have k79 : ∀ b o, b ≠ N + 6 → h7.get? b = some o → h9.get? b = some o := fun b o hb g => hs9.extBut b o hb (hs8.extBut b o hb g)
        have e8 : Ext s.heap h8 := e7.step (V := [N + 6]) (fun b hb => by simp at hb; subst hb; exact hC0) (fun b hb => by simp at hb; subst hb; exact noRec_ns ns7) fun b o hb g => hs8.extBut b o (by show b ≠ N + 6; simpa using hb) g
        have e9 : Ext s.heap h9 := e8.step (V := [N + 6]) (fun b hb => by simp at hb; subst hb; exact hC0) (fun b hb => by simp at hb; subst hb; exact noRec_ns ns8) fun b o hb g => hs9.extBut b o (by show b ≠ N + 6; simpa using hb) g
        obtain ⟨p, hp, hRp⟩ := q1.get' (i := i) (v := v) (by simpa using hv)
        obtain ⟨q, hq, hRq⟩ := q2.get' (i := i) (v := u) (by simpa using hu)
        have st9 := W.frame (i + 1) h6 h9 st6 fun b hb o g => k79 b o (by
          simp at hb
          rcases hb with rfl | rfl | rfl | rfl | rfl | rfl | rfl <;> first | exact ne1 6 | exact ne2 6 | simp) (x7 b o (Nat.ne_of_lt (Heap.lt_size g)) g)
        refine (htest i p q v u (N + 6) h9 _ hp hq (he.trans e9) (hR1 _ _ _ _ e9 hRp) (hR2 _ _ _ _ e9 hRq) ns9 ?_ ?_).go (.refl _) fun ok s10 hok g10 => ⟨hok, ?_⟩
        · simp [hxy]
        · simp
        have d9 : h9.PlainList (N + 5) #[] := d7.at fun o g => k79 _ o (by simp) g
        refine ⟨xs.length + 1 - (i + 1), by omega, i + 1, _, ?_, g10.ext.ns ns9, g10.ext.plain d9, e9.trans g10.ext, (to4.trans ⟨h9, _, rfl⟩).trans g10.to, hlt, rfl⟩
        obtain ⟨z1, z2, ⟨aa, bb, z3⟩, z4, z5, z6, z7⟩ := st9
        refine ⟨g10.ext.solid (solid_cls (by simp)) z1, g10.ext.solid (solid_cls (by simp)) z2, ⟨aa, bb, g10.ext.solid (solid_cls (by simp)) z3⟩, ?_, ?_, g10.ext.list z6, g10.ext.list z7⟩
        · obtain ⟨o, a, b, c⟩ := z4; exact ⟨o, g10.ext.solid (solid_cls (by rw [b]; simp)) a, b, c⟩
        · obtain ⟨o, a, b, c⟩ := z5; exact ⟨o, g10.ext.solid (solid_cls (by rw [b]; simp)) a, b, c⟩
      · have hin : i = xs.length := by omega
        subst hin
        refine W.done _ _ _ st fun h5 tk5 k5 => ?_
        have e5 : Ext s.heap h5 := e4.step fr rec4 k5
        have ns5 : h5.Ns (N + 6) m := ns4.at' fun o g => k5 _ o (by simp) g
        have d5 : h5.PlainList (N + 5) #[] := d4.at fun o g => k5 _ o (by simp) g
        refine ⟨m, ns5, fun h6 hs6 => ⟨⟨N + 5, [], rfl, d5.at fun o g => hs6.extBut _ o (by simp) g, .nil⟩, ?_⟩⟩
        refine To.go (to4.trans ⟨h6, _, rfl⟩) (e5.step (V := [N + 6]) (fun b hb => by simp at hb; subst hb; exact hC0) (fun b hb => by simp at hb; subst hb; exact noRec_ns ns5) fun b o hb g => hs6.extBut b o (by simpa using hb) g)
    exact codeAny_compStart_list loop (W.self 0 _ _ _ st0 loop)
  exact run _ ⟨h₁, _, rfl⟩ rfl
end


/-! ## the plain law -/
def bitAt (l : List Int) (t : Nat) : Int := (l[t]?).getD 0
def Lot (l : List Int) : Prop := l.length = 10 ∧ ∀ x ∈ l, x = 0 ∨ x = 1
theorem Lot.bit {l : List Int} (h : Lot l) (t : Nat) : bitAt l t = 0 ∨ bitAt l t = 1 := by
  unfold bitAt
  cases e : l[t]? with
  | none => exact .inl rfl
  | some x => exact h.2 x (List.mem_of_getElem? e)
/-- a sum over the ten things -/
def S (f : Nat → Int) : Int := f 0 + f 1 + f 2 + f 3 + f 4 + f 5 + f 6 + f 7 + f 8 + f 9
theorem S_congr {f g : Nat → Int} (h : ∀ t, t < 10 → f t = g t) : S f = S g := by
  unfold S
  rw [h 0 (by decide), h 1 (by decide), h 2 (by decide), h 3 (by decide), h 4 (by decide), h 5 (by decide), h 6 (by decide), h 7 (by decide), h 8 (by decide), h 9 (by decide)]
theorem S_add (f g : Nat → Int) : S (fun t => f t + g t) = S f + S g := by simp only [S]; omega
theorem S_zero : S (fun _ => 0) = 0 := rfl
theorem S_upd (g : Nat → Int) (a : Int) {k : Nat} (hk : k < 10) : S (fun t => if t = k then a + g t else g t) = a + S g := by
  have : k = 0 ∨ k = 1 ∨ k = 2 ∨ k = 3 ∨ k = 4 ∨ k = 5 ∨ k = 6 ∨ k = 7 ∨ k = 8 ∨ k = 9 := by omega
  unfold S
  rcases this with rfl | rfl | rfl | rfl | rfl | rfl | rfl | rfl | rfl | rfl <;> simp <;> omega

/-- in how many lots a thing is -/
def cs : List (List Int) → Nat → Nat
  | [], _ => 0
  | l :: r, t => (if bitAt l t = 1 then 1 else 0) + cs r t
theorem cs_append (a b : List (List Int)) (t : Nat) : cs (a ++ b) t = cs a t + cs b t := by
  induction a with
  | nil => simp [cs]
  | cons l r ih => rw [List.cons_append, cs, cs, ih]; omega
theorem cs_reverse (a : List (List Int)) (t : Nat) : cs a.reverse t = cs a t := by
  induction a with
  | nil => rfl
  | cons l r ih => rw [List.reverse_cons, cs_append, ih]; simp [cs]; omega
theorem cs_le (a : List (List Int)) (t : Nat) : cs a t ≤ a.length := by
  induction a with
  | nil => simp [cs]
  | cons l r ih => rw [cs, List.length_cons]; split <;> omega

/-! what lots hold in common -/
def idx (m : Nat) (n : Int) : List Int := (upFrom 0 m).filter fun k => (n.fdiv (2 ^ k.toNat)).fmod 2 == 1
theorem taken_idx (lots : List (List Int)) (n : Int) : takenOf lots n = (idx lots.length n).map fun k => (lots[k.toNat]?).getD [] := rfl
/-- one thing's share: b tells in which lots it is -/
def colHas (b : List Bool) (ks : List Int) : Bool := ks.all fun k => (b[k.toNat]?).getD false
def colUpTo (b : List Bool) : Nat → List Int
  | 0 => List.replicate (b.length + 1) 0
  | i + 1 => (colUpTo b i).set (idx b.length i).length (((colUpTo b i)[(idx b.length i).length]?).getD 0 + if colHas b (idx b.length i) then 1 else 0)
def col (lots : List (List Int)) (t : Nat) : List Bool := lots.map fun l => bitAt l t == 1
theorem col_len (lots : List (List Int)) (t : Nat) : (col lots t).length = lots.length := by simp [col]
theorem colUpTo_len (b : List Bool) : ∀ i, (colUpTo b i).length = b.length + 1
  | 0 => by simp [colUpTo]
  | i + 1 => by rw [colUpTo, List.length_set, colUpTo_len b i]

theorem filter_sum (p : Int → Bool) (xs : List Int) : ((xs.filter p).length : Int) = (xs.map fun x => if p x then (1 : Int) else 0).sum := by
  induction xs with
  | nil => rfl
  | cons x r ih =>
    rw [List.filter_cons, List.map_cons, List.sum_cons, ← ih]
    cases p x <;> simp <;> omega
theorem map_S (g : Int → Int) : ((upFrom 0 10).map g).sum = S (fun t => g (t : Int)) := by
  have : upFrom 0 10 = [0, 1, 2, 3, 4, 5, 6, 7, 8, 9] := by decide
  rw [this]
  simp only [List.map_cons, List.map_nil, List.sum_cons, List.sum_nil]
  show _ = g 0 + g 1 + g 2 + g 3 + g 4 + g 5 + g 6 + g 7 + g 8 + g 9
  omega

theorem idx_lt {m : Nat} {n k : Int} (h : k ∈ idx m n) : 0 ≤ k ∧ k.toNat < m := by
  obtain ⟨h, _⟩ := List.mem_filter.mp h
  obtain ⟨i, hi, rfl⟩ := List.mem_map.mp h
  have : i < m := by simpa using hi
  omega
theorem inAll_col {lots : List (List Int)} (hl : ∀ l ∈ lots, Lot l) (n : Int) (t : Nat) : inAll (takenOf lots n) (t : Int) = colHas (col lots t) (idx lots.length n) := by
  rw [taken_idx]
  unfold inAll colHas
  have hm : ∀ k ∈ idx lots.length n, k.toNat < lots.length := fun k hk => (idx_lt hk).2
  generalize idx lots.length n = ks at hm
  induction ks with
  | nil => rfl
  | cons k r ih =>
    have ih := ih fun k' hk' => hm k' (List.mem_cons_of_mem _ hk')
    have hk : k.toNat < lots.length := hm k (List.mem_cons_self ..)
    rw [List.map_cons, List.filter_cons, List.all_cons, ← ih]
    have h1 : (lots[k.toNat]?).getD [] = lots[k.toNat] := by rw [List.getElem?_eq_getElem hk]; rfl
    have h2 : ((col lots t)[k.toNat]?).getD false = (bitAt lots[k.toNat] t == 1) := by
      unfold col
      rw [List.getElem?_map, List.getElem?_eq_getElem hk]; rfl
    rw [h1, h2]
    have h3 : (lots[k.toNat][((t : Int)).toNat]?).getD 0 = bitAt lots[k.toNat] t := by rw [Int.toNat_natCast]; rfl
    rw [h3]
    rcases (hl _ (List.getElem_mem hk)).bit t with e | e <;> rw [e] <;> simp

theorem set_getD (xs : List Int) (p k : Nat) (v : Int) (hp : p < xs.length) : ((xs.set p v)[k]?).getD 0 = if p = k then v else (xs[k]?).getD 0 := by
  by_cases h : p = k
  · subst h; simp [hp]
  · simp [h]
theorem rep_getD (n k : Nat) : ((List.replicate n (0 : Int))[k]?).getD 0 = 0 := by
  rw [List.getElem?_replicate]; split <;> rfl
theorem idx_len (m : Nat) (n : Int) : (idx m n).length ≤ m := Nat.le_trans (List.length_filter_le _ _) (by simp [upFrom])

theorem found_col {lots : List (List Int)} (hl : ∀ l ∈ lots, Lot l) : ∀ (i k : Nat), ((foundUpTo lots i)[k]?).getD 0 = S (fun t => ((colUpTo (col lots t) i)[k]?).getD 0)
  | 0, k => by
    rw [foundUpTo, rep_getD]
    rw [S_congr (g := fun _ => 0) fun t _ => by rw [colUpTo, rep_getD], S_zero]
  | i + 1, k => by
    have e0 : (takenOf lots i).length = (idx lots.length i).length := by rw [taken_idx, List.length_map]
    have hp := idx_len lots.length i
    rw [foundUpTo, e0, set_getD _ _ _ _ (by rw [found_len]; omega)]
    rw [S_congr (g := fun t => if (idx lots.length i).length = k then ((colUpTo (col lots t) i)[k]?).getD 0 + (if colHas (col lots t) (idx lots.length i) then 1 else 0) else ((colUpTo (col lots t) i)[k]?).getD 0) fun t _ => by
      rw [colUpTo, col_len, set_getD _ _ _ _ (by rw [colUpTo_len, col_len]; omega)]
      by_cases h : (idx lots.length i).length = k
      · simp only [h, if_true]
      · simp only [h, if_false]]
    by_cases h : (idx lots.length i).length = k
    · simp only [h, if_true]
      rw [S_add, found_col hl i k]
      congr 1
      unfold cntOf
      rw [filter_sum, map_S]
      exact S_congr fun t _ => by rw [inAll_col hl]
    · simp only [h, if_false]
      exact found_col hl i k

theorem cs_col (lots : List (List Int)) (t : Nat) : cs lots t = (col lots t).count true := by
  induction lots with
  | nil => rfl
  | cons l r ih =>
    rw [cs, ih]
    show _ = ((bitAt l t == 1) :: col r t).count true
    rw [List.count_cons]
    by_cases h : bitAt l t = 1
    · simp [h]; omega
    · have : (bitAt l t == 1) = false := by simpa using h
      simp [h]
theorem col0 : ∀ k : Fin 5, ((colUpTo [] 1)[k.val]?).getD 0 = if k.val ≤ 0 then (C 0 k : Int) else 0 := by decide +kernel
theorem col1 : ∀ x : Bool, ∀ k : Fin 5, ((colUpTo [x] 2)[k.val]?).getD 0 = if k.val ≤ 1 then (C ([x].count true) k : Int) else 0 := by decide +kernel
theorem col2 : ∀ x y : Bool, ∀ k : Fin 5, ((colUpTo [x, y] 4)[k.val]?).getD 0 = if k.val ≤ 2 then (C ([x, y].count true) k : Int) else 0 := by decide +kernel
theorem col3 : ∀ x y z : Bool, ∀ k : Fin 5, ((colUpTo [x, y, z] 8)[k.val]?).getD 0 = if k.val ≤ 3 then (C ([x, y, z].count true) k : Int) else 0 := by decide +kernel
theorem col4 : ∀ x y z u : Bool, ∀ k : Fin 5, ((colUpTo [x, y, z, u] 16)[k.val]?).getD 0 = (C ([x, y, z, u].count true) k : Int) := by decide +kernel
theorem col_all (b : List Bool) (hb : b.length ≤ 4) {k : Nat} (hk : k ≤ b.length) : ((colUpTo b (2 ^ b.length))[k]?).getD 0 = (C (b.count true) k : Int) := by
  match b, hb, hk with
  | [], _, hk => have := col0 ⟨k, by simp at hk; omega⟩; simp at hk; subst hk; simpa using this
  | [x], _, hk => have := col1 x ⟨k, by simp at hk; omega⟩; simp at hk; simpa [hk] using this
  | [x, y], _, hk => have := col2 x y ⟨k, by simp at hk; omega⟩; simp at hk; simpa [hk] using this
  | [x, y, z], _, hk => have := col3 x y z ⟨k, by simp at hk; omega⟩; simp at hk; simpa [hk] using this
  | [x, y, z, u], _, hk => have := col4 x y z u ⟨k, by simp at hk; omega⟩; simpa using this
  | _ :: _ :: _ :: _ :: _ :: _, hb, _ => simp at hb

theorem common_at {lots : List (List Int)} (hl : ∀ l ∈ lots, Lot l) (h4 : lots.length ≤ 4) {k : Nat} (hk : k ≤ lots.length) : (foundUpTo lots (2 ^ lots.length))[k]? = some (S fun t => (C (cs lots t) k : Int)) := by
  have h1 := found_col hl (2 ^ lots.length) k
  have h2 : k < (foundUpTo lots (2 ^ lots.length)).length := by rw [found_len]; omega
  rw [List.getElem?_eq_getElem h2] at h1 ⊢
  refine congrArg some (h1.trans (S_congr fun t _ => ?_))
  have := col_all (col lots t) (by rw [col_len]; exact h4) (k := k) (by rw [col_len]; exact hk)
  rw [col_len] at this
  rw [this, cs_col]

theorem common_rev {lots : List (List Int)} (hl : ∀ l ∈ lots, Lot l) (h4 : lots.length ≤ 4) : foundUpTo lots.reverse (2 ^ lots.reverse.length) = foundUpTo lots (2 ^ lots.length) := by
  apply List.ext_getElem?
  intro k
  by_cases hk : k ≤ lots.length
  · rw [common_at (fun l h => hl l (List.mem_reverse.mp h)) (by simpa using h4) (by simpa using hk), common_at hl h4 hk]
    exact congrArg some (S_congr fun t _ => by rw [cs_reverse])
  · rw [List.getElem?_eq_none (by rw [found_len, List.length_reverse]; omega), List.getElem?_eq_none (by rw [found_len]; omega)]


theorem getK_cons (k n t : Int) (r : List (Int × Int)) : getK ((k, n) :: r) t = if k = t then some n else getK r t := by
  unfold getK
  rw [List.find?_cons]
  by_cases h : k = t <;> simp [h]
theorem getK_append (a : List (Int × Int)) (k n t : Int) (h : getK a k = none) : getK (a ++ [(k, n)]) t = if t = k then some n else getK a t := by
  induction a with
  | nil =>
    rw [List.nil_append, getK_cons]
    by_cases e : k = t
    · simp [e]
    · simp [e, Ne.symm e]
  | cons p r ih =>
    obtain ⟨k', n'⟩ := p
    rw [getK_cons] at h
    by_cases e : k' = k
    · simp [e] at h
    · simp [e] at h
      rw [List.cons_append, getK_cons, getK_cons, ih h]
      by_cases e2 : k' = t
      · have : t ≠ k := fun q => e (e2.trans q)
        simp [e2, this]
      · simp [e2]
theorem getK_map (a : List (Int × Int)) (k n t : Int) : getK (a.map fun p => if p.1 = k then (p.1, n) else p) t = if t = k then (getK a k).map (fun _ => n) else getK a t := by
  induction a with
  | nil => simp [getK]
  | cons p r ih =>
    obtain ⟨k', n'⟩ := p
    rw [List.map_cons, getK_cons, getK_cons]
    by_cases e : k' = k
    · subst e
      simp only [if_true]
      rw [getK_cons, ih]
      by_cases e2 : k' = t
      · subst e2; simp
      · simp [e2, Ne.symm e2]
    · simp only [e, if_false]
      rw [getK_cons, ih]
      by_cases e2 : k' = t
      · subst e2; simp [e]
      · simp [e2]
theorem getK_put (kv : List (Int × Int)) (k n t : Int) : getK (putK kv k n) t = if t = k then some n else getK kv t := by
  unfold putK
  cases e : getK kv k with
  | none => simpa using getK_append kv k n t e
  | some m => simp only [Option.isSome_some, if_true]; rw [getK_map, e]; rfl

/-- the keys: things, each once -/
def Keys (kv : List (Int × Int)) : Prop := (kv.map (·.1)).Nodup ∧ ∀ k : Int, k ∈ kv.map (·.1) → ∃ t : Nat, t < 10 ∧ k = (t : Int)
theorem keys_mem {kv : List (Int × Int)} {k : Int} (h : getK kv k = none) : k ∉ kv.map (·.1) := by
  induction kv with
  | nil => simp
  | cons p r ih =>
    obtain ⟨k', n'⟩ := p
    rw [getK_cons] at h
    by_cases e : k' = k
    · simp [e] at h
    · simp [e] at h
      have := ih h
      rw [List.map_cons, List.mem_cons]
      rintro (q | q)
      · exact e q.symm
      · exact this q
theorem Keys.put {kv : List (Int × Int)} (x : Keys kv) {t : Nat} (ht : t < 10) (n : Int) : Keys (putK kv t n) := by
  unfold putK
  cases e : getK kv t with
  | none =>
    simp only [Option.isSome_none, Bool.false_eq_true, if_false]
    refine ⟨?_, ?_⟩
    · rw [List.map_append, List.nodup_append]
      refine ⟨x.1, by simp, fun a ha b hb => ?_⟩
      simp at hb
      rintro rfl
      exact keys_mem e (hb ▸ ha)
    · intro k hk
      rw [List.map_append] at hk
      rcases List.mem_append.mp hk with hk | hk
      · exact x.2 k hk
      · simp at hk; exact ⟨t, ht, hk⟩
  | some m =>
    simp only [Option.isSome_some, if_true]
    have : (kv.map fun p => if p.1 = (t : Int) then (p.1, n) else p).map (·.1) = kv.map (·.1) := by
      rw [List.map_map]
      apply List.map_congr_left
      intro p _
      show (if p.1 = (t : Int) then (p.1, n) else p).1 = p.1
      split <;> rfl
    unfold Keys
    rw [this]
    exact x
theorem sumK {kv : List (Int × Int)} (x : Keys kv) (f : Int → Int) : (kv.map fun p => f p.2).sum = S (fun t => match getK kv (t : Int) with | some n => f n | none => 0) := by
  induction kv with
  | nil => exact S_zero.symm
  | cons p r ih =>
    obtain ⟨k, n⟩ := p
    obtain ⟨hn, hk⟩ := x
    rw [List.map_cons, List.nodup_cons] at hn
    obtain ⟨t0, ht0, rfl⟩ := hk k (by simp)
    have ih := ih ⟨hn.2, fun k' hk' => hk k' (by rw [List.map_cons]; exact List.mem_cons_of_mem _ hk')⟩
    rw [List.map_cons, List.sum_cons, ih, ← S_upd _ _ ht0]
    refine S_congr fun t _ => ?_
    rw [getK_cons]
    by_cases e : t = t0
    · subst e
      have : getK r (t : Int) = none := getK_none hn.1
      simp [this]
    · have : ¬ ((t0 : Int) = (t : Int)) := by omega
      simp [e, this]

def stepLot (lot : List Int) (kv : List (Int × Int)) : Nat → List (Int × Int)
  | 0 => kv
  | j + 1 => if bitAt lot j = 1 then addK (stepLot lot kv j) [((j : Int), 1)] else stepLot lot kv j
def callsOf (lots : List (List Int)) : List (Int × Int) := lots.foldl (fun kv lot => stepLot lot kv 10) []
theorem addK_one (kv : List (Int × Int)) (k : Int) : addK kv [(k, 1)] = putK kv k (match getK kv k with | some n => n + 1 | none => 1) := rfl
def opt (n : Nat) : Option Int := if n = 0 then none else some n
theorem step_get {lot : List Int} {kv : List (Int × Int)} {c : Nat → Nat} (h : ∀ t : Nat, t < 10 → getK kv (t : Int) = opt (c t)) : ∀ j : Nat, j ≤ 10 → ∀ t : Nat, t < 10 → getK (stepLot lot kv j) (t : Int) = opt (c t + if t < j ∧ bitAt lot t = 1 then 1 else 0)
  | 0, _, t, ht => by simpa [stepLot] using h t ht
  | j + 1, hj, t, ht => by
    have ih := step_get (lot := lot) h j (by omega) t ht
    rw [stepLot]
    by_cases e : bitAt lot j = 1
    · rw [if_pos e, addK_one, getK_put]
      by_cases ej : t = j
      · subst ej
        rw [ih]
        have h1 : ¬ (t < t ∧ bitAt lot t = 1) := by omega
        have h2 : t < t + 1 ∧ bitAt lot t = 1 := ⟨by omega, e⟩
        rw [if_pos rfl, if_neg h1, if_pos h2]
        unfold opt
        by_cases hc : c t = 0
        · simp [hc]
        · simp [hc]
      · rw [if_neg (by omega), ih]
        have : (t < j ∧ bitAt lot t = 1) ↔ (t < j + 1 ∧ bitAt lot t = 1) := by omega
        simp only [this]
    · rw [if_neg e, ih]
      by_cases ej : t = j
      · subst ej
        simp [e]
      · have : (t < j ∧ bitAt lot t = 1) ↔ (t < j + 1 ∧ bitAt lot t = 1) := by omega
        simp only [this]
theorem step_keys {lot : List Int} {kv : List (Int × Int)} (h : Keys kv) : ∀ j : Nat, j ≤ 10 → Keys (stepLot lot kv j)
  | 0, _ => h
  | j + 1, hj => by
    have ih := step_keys (lot := lot) h j (by omega)
    rw [stepLot]
    split
    · rw [addK_one]; exact ih.put (by omega) _
    · exact ih
theorem calls_get_aux (lots : List (List Int)) : ∀ (kv : List (Int × Int)) (c : Nat → Nat), (∀ t : Nat, t < 10 → getK kv (t : Int) = opt (c t)) → ∀ t : Nat, t < 10 → getK (lots.foldl (fun kv lot => stepLot lot kv 10) kv) (t : Int) = opt (c t + cs lots t) := by
  induction lots with
  | nil => intro kv c h t ht; simpa [cs] using h t ht
  | cons l r ih =>
    intro kv c h t ht
    rw [List.foldl_cons]
    have := ih (stepLot l kv 10) (fun t => c t + if t < 10 ∧ bitAt l t = 1 then 1 else 0) (fun t ht => step_get h 10 (by omega) t ht) t ht
    rw [this, cs]
    simp only [ht, true_and, Nat.add_assoc]
theorem calls_get (lots : List (List Int)) {t : Nat} (ht : t < 10) : getK (callsOf lots) (t : Int) = opt (cs lots t) := by
  have := calls_get_aux lots [] (fun _ => 0) (fun t _ => rfl) t ht
  simpa [callsOf] using this
theorem calls_keys_aux (lots : List (List Int)) : ∀ kv, Keys kv → Keys (lots.foldl (fun kv lot => stepLot lot kv 10) kv) := by
  induction lots with
  | nil => intro kv h; exact h
  | cons l r ih => intro kv h; exact ih _ (step_keys h 10 (by omega))
theorem calls_keys (lots : List (List Int)) : Keys (callsOf lots) := calls_keys_aux lots [] ⟨List.nodup_nil, fun k hk => by simp at hk⟩
theorem calls_sum (lots : List (List Int)) (f : Int → Int) : (((callsOf lots).map (·.2)).map f).sum = S (fun t => if cs lots t = 0 then 0 else f (cs lots t)) := by
  rw [List.map_map]
  refine (sumK (calls_keys lots) f).trans (S_congr fun t ht => ?_)
  rw [calls_get lots ht]
  unfold opt
  by_cases h : cs lots t = 0 <;> simp [h]
theorem getK_mem {kv : List (Int × Int)} (h : (kv.map (·.1)).Nodup) {p : Int × Int} (hp : p ∈ kv) : getK kv p.1 = some p.2 := by
  induction kv with
  | nil => simp at hp
  | cons q r ih =>
    obtain ⟨k, n⟩ := q
    rw [List.map_cons, List.nodup_cons] at h
    rw [getK_cons]
    rcases List.mem_cons.mp hp with rfl | hp
    · simp
    · have : p.1 ∈ r.map (·.1) := List.mem_map_of_mem hp
      have ne : k ≠ p.1 := fun e => h.1 (e ▸ this)
      simp [ne, ih h.2 hp]
theorem calls_val {lots : List (List Int)} {v : Int} (h : v ∈ (callsOf lots).map (·.2)) : ∃ n : Nat, v = n ∧ 1 ≤ n ∧ n ≤ lots.length := by
  obtain ⟨p, hp, rfl⟩ := List.mem_map.mp h
  have K := calls_keys lots
  obtain ⟨t, ht, e⟩ := K.2 p.1 (List.mem_map_of_mem hp)
  have := getK_mem K.1 hp
  rw [e, calls_get lots ht] at this
  unfold opt at this
  by_cases hc : cs lots t = 0
  · simp [hc] at this
  · simp [hc] at this
    exact ⟨cs lots t, this.symm, by omega, cs_le _ _⟩

theorem keys_len {kv : List (Int × Int)} (x : Keys kv) : kv.length ≤ 10 := by
  have h : kv.length = (kv.map fun p => (fun _ => (1 : Int)) p.2).sum := by
    clear x
    induction kv with
    | nil => rfl
    | cons p r ih => rw [List.map_cons, List.sum_cons, ← ih]; simp; omega
  rw [sumK x fun _ => (1 : Int)] at h
  have : ∀ f : Nat → Int, (∀ t, f t ≤ 1) → S f ≤ 10 := fun f hf => by
    unfold S
    have a0 := hf 0; have a1 := hf 1; have a2 := hf 2; have a3 := hf 3; have a4 := hf 4; have a5 := hf 5; have a6 := hf 6; have a7 := hf 7; have a8 := hf 8; have a9 := hf 9
    omega
  have := this (fun t => match getK kv (t : Int) with | some n => (fun _ => (1 : Int)) n | none => 0) fun t => by
    show (match getK kv (t : Int) with | some n => (1 : Int) | none => 0) ≤ 1
    cases getK kv (t : Int) <;> simp
  have : (kv.length : Int) ≤ 10 := by rw [h]; exact this
  omega

/-! by how many lots each thing is in -/
def Nn (lots : List (List Int)) (j : Nat) : Int := S fun t => if cs lots t = j then 1 else 0
theorem pt5 (f : Nat → Int) (n : Nat) (h : n ≤ 4) : f n = (if n = 0 then 1 else 0) * f 0 + (if n = 1 then 1 else 0) * f 1 + (if n = 2 then 1 else 0) * f 2 + (if n = 3 then 1 else 0) * f 3 + (if n = 4 then 1 else 0) * f 4 := by
  have : n = 0 ∨ n = 1 ∨ n = 2 ∨ n = 3 ∨ n = 4 := by omega
  rcases this with rfl | rfl | rfl | rfl | rfl <;> simp
theorem S_mul (g : Nat → Int) (a : Int) : S (fun t => g t * a) = S g * a := by simp only [S, Int.add_mul]
theorem master {lots : List (List Int)} (h4 : lots.length ≤ 4) (f : Nat → Int) : S (fun t => f (cs lots t)) = Nn lots 0 * f 0 + Nn lots 1 * f 1 + Nn lots 2 * f 2 + Nn lots 3 * f 3 + Nn lots 4 * f 4 := by
  rw [S_congr (g := fun t => (((((if cs lots t = 0 then 1 else 0) * f 0 + (if cs lots t = 1 then 1 else 0) * f 1) + (if cs lots t = 2 then 1 else 0) * f 2) + (if cs lots t = 3 then 1 else 0) * f 3) + (if cs lots t = 4 then 1 else 0) * f 4 : Int)) fun t _ => pt5 f _ (Nat.le_trans (cs_le lots t) h4)]
  rw [S_add, S_add, S_add, S_add, S_mul, S_mul, S_mul, S_mul, S_mul]
  rfl
theorem Nn_nonneg (lots : List (List Int)) (j : Nat) : 0 ≤ Nn lots j := by
  have : ∀ f : Nat → Int, (∀ t, 0 ≤ f t) → 0 ≤ S f := fun f hf => by
    unfold S
    have a0 := hf 0; have a1 := hf 1; have a2 := hf 2; have a3 := hf 3; have a4 := hf 4; have a5 := hf 5; have a6 := hf 6; have a7 := hf 7; have a8 := hf 8; have a9 := hf 9
    omega
  exact this _ fun t => by show (0 : Int) ≤ if cs lots t = j then 1 else 0; split <;> decide
theorem Nn_zero {lots : List (List Int)} {j : Nat} (h : lots.length < j) : Nn lots j = 0 := by
  unfold Nn
  rw [S_congr (g := fun _ => 0) fun t _ => if_neg (by have := cs_le lots t; omega), S_zero]

/-- all that the law asks, in numbers -/
structure Nums (lots : List (List Int)) (n0 n1 n2 n3 n4 : Int) : Prop where
  h0 : 0 ≤ n0
  h1 : 0 ≤ n1
  h2 : 0 ≤ n2
  h3 : 0 ≤ n3
  h4 : 0 ≤ n4
  all : n0 + n1 + n2 + n3 + n4 = 10
  z : (lots.length < 4 → n4 = 0) ∧ (lots.length < 3 → n3 = 0) ∧ (lots.length < 2 → n2 = 0) ∧ (lots.length < 1 → n1 = 0)
  sum : ∀ f : Int → Int, (((callsOf lots).map (·.2)).map f).sum = n1 * f 1 + n2 * f 2 + n3 * f 3 + n4 * f 4
  c0 : (foundUpTo lots (2 ^ lots.length))[0]? = some 10
  c1 : 1 ≤ lots.length → (foundUpTo lots (2 ^ lots.length))[1]? = some (n1 + 2 * n2 + 3 * n3 + 4 * n4)
  c2 : 2 ≤ lots.length → (foundUpTo lots (2 ^ lots.length))[2]? = some (n2 + 3 * n3 + 6 * n4)
  c3 : 3 ≤ lots.length → (foundUpTo lots (2 ^ lots.length))[3]? = some (n3 + 4 * n4)
  c4 : 4 ≤ lots.length → (foundUpTo lots (2 ^ lots.length))[4]? = some n4

theorem nums {lots : List (List Int)} (hl : ∀ l ∈ lots, Lot l) (h4 : lots.length ≤ 4) : Nums lots (Nn lots 0) (Nn lots 1) (Nn lots 2) (Nn lots 3) (Nn lots 4) := by
  have M := master h4
  have all : Nn lots 0 + Nn lots 1 + Nn lots 2 + Nn lots 3 + Nn lots 4 = 10 := by
    have := M fun _ => 1
    have e : S (fun _ => (1 : Int)) = 10 := rfl
    rw [e] at this
    omega
  refine ⟨Nn_nonneg _ _, Nn_nonneg _ _, Nn_nonneg _ _, Nn_nonneg _ _, Nn_nonneg _ _, all, ⟨Nn_zero, Nn_zero, Nn_zero, Nn_zero⟩, fun f => ?_, ?_, fun h => ?_, fun h => ?_, fun h => ?_, fun h => ?_⟩
  · rw [calls_sum, M fun n => if n = 0 then 0 else f n]
    simp
  · rw [common_at hl h4 (Nat.zero_le _), M fun n => (C n 0 : Int)]
    simp [C]; omega
  · rw [common_at hl h4 h, M fun n => (C n 1 : Int)]
    simp [C]; omega
  · rw [common_at hl h4 h, M fun n => (C n 2 : Int)]
    simp [C]; omega
  · rw [common_at hl h4 h, M fun n => (C n 3 : Int)]
    simp [C]; omega
  · rw [common_at hl h4 h, M fun n => (C n 4 : Int)]
    simp [C]


noncomputable def lawB (P : Params) (n : Nat) : List Stmt := match (fdOf P 66).body with
  | .stmts l => l.drop n
  | _ => []
noncomputable abbrev envL (w : World) (s₀ : Shared) : Env := callEnvC (fdOf w.params 66) s₀.heap.objs.size 66

structure Ct (prog : Program) (w : World) (s₀ : Shared) (lots : List (List Int)) (m cm : Str → Option Value) (h : Heap) : Prop where
  many : ∃ t, m "many" = some (.int lots.length t)
  lot : ∃ lv, cm "lots" = some lv ∧ IsL (IsL IsI) lots lv h
  common : ∃ cv, cm "common" = some cv ∧ IsL IsI (foundUpTo lots (2 ^ lots.length)) cv h
  calls : ∃ d, m "calls" = some (.ref d) ∧ IsKV prog w (callsOf lots) d h ∧ (d == sysModules) = false ∧ d ≠ s₀.heap.objs.size
section
variable {prog : Program} {w : World} {s₀ : Shared} {lots : List (List Int)} {m m' cm cm' : Str → Option Value} {h h' : Heap}
theorem Ct.at (x : Ct prog w s₀ lots m cm h) (hd : Hd h h') (hD : ∀ d o, IsKV prog w (callsOf lots) d h → d ≠ s₀.heap.objs.size → h.get? d = some o → h'.get? d = some o) (hm : ∀ y, y = "many" ∨ y = "calls" → m' y = m y) (hcm : ∀ y, y = "lots" ∨ y = "common" → cm' y = cm y) : Ct prog w s₀ lots m' cm' h' := by
  obtain ⟨⟨t, a⟩, ⟨lv, b1, b2⟩, ⟨cv, c1, c2⟩, d, d1, d2, d3, d4⟩ := x
  exact ⟨⟨t, (hm _ (.inl rfl)).trans a⟩, ⟨lv, (hcm _ (.inl rfl)).trans b1, hd.lots b2⟩, ⟨cv, (hcm _ (.inr rfl)).trans c1, hd.ints c2⟩, d, (hm _ (.inr rfl)).trans d1, d2.at (fun o g => hD d o d2 d4 g) hd, d3, d4⟩
theorem Ct.up (x : Ct prog w s₀ lots m cm h) (e : Ext h h') : Ct prog w s₀ lots m cm h' :=
  x.at e.hd (fun d o hk _ g => by obtain ⟨o', _, _, g', hd, _⟩ := hk.obj; rw [g] at g'; cases g'; exact e.solid (solid_dict hd) g) (fun _ _ => rfl) fun _ _ => rfl
theorem Ct.nf (x : Ct prog w s₀ lots m cm h) (hk : ∀ b o, (∀ vs, o.data ≠ .fields vs) → h.get? b = some o → h'.get? b = some o) : Ct prog w s₀ lots m cm h' :=
  x.at (fun b o xs n d e => hk b o (by rw [d]; nofun) e) (fun d o hkv _ g => by obtain ⟨o', _, _, g', hd, _⟩ := hkv.obj; rw [g] at g'; cases g'; exact hk d _ (by rw [hd]; nofun) g) (fun _ _ => rfl) fun _ _ => rfl
end

section
variable {prog : Program} {w : World} {A : Around} {h : Heap} {env : Env} {pos : Pos}
theorem ev_range2 {f : Str} {p : Pos} {e1 e2 : PySem.Expr} {a b : Int} (rf : Rd env f (.type "range") h) (hh : A.handled = none) (h1 : Tr prog w A h (eval e1 env) (IsI a)) (h2 : Tr prog w A h (eval e2 env) (IsI b)) (ha : 0 ≤ a) (ha' : a < 1000000) (hb : 0 ≤ b) (hb' : b < 1000000)
    (hs : starEach [e1, e2] env = (false, eval e1 env) :: starEach [e2] env := by rfl) (hs2 : starEach [e2] env = [(false, eval e2 env)] := by rfl) (hd : (f == ("__debug__" : Str)) = false := by decide) :
    Tr prog w A h (eval (.Call (.Name f p) [e1, e2] [] pos) env) (IsRng prog w A a (b - a).toNat) :=
  ev_callT2 (Φ := IsI a) (Φ2 := IsI b) rf h1 (fun _ e => h2.up e) (fun v u h' h'' _ _ ⟨t, e⟩ ⟨t', e'⟩ => by subst e; subst e'; exact tr_range2 hh (by omega) (by omega) (by omega) (by omega)) hs hs2 hd
theorem boot_abs : bootBuiltins "abs" = some (.builtin "abs") := by decide +kernel
theorem boot_min : bootBuiltins "min" = some (.builtin "min") := by decide +kernel
theorem boot_max : bootBuiltins "max" = some (.builtin "max") := by decide +kernel
theorem boot_sum : bootBuiltins "sum" = some (.builtin "sum") := by decide +kernel
theorem boot_zip : bootBuiltins "zip" = some (.type "zip") := by decide +kernel
end

section
variable {prog : Program} {w : World} {A : Around} {α β : Type} {elt iter : PySem.Expr} {t : Str} {pt pos : Pos} {scope : Scope} {cl : List (Str × Addr)} {env : Env} {h : Heap} {R : α → Value → Heap → Prop} {Sx : β → Value → Heap → Prop} {xs : List α}
theorem filter_true (xs : List α) : xs.filter (fun _ => true) = xs := by simp
/-- no tests -/
theorem ev_compM (f : α → β) (hclos : closureFor scope env = pure cl) (hcell : ∀ y ∈ scope.names, y.2 ≠ .cell) (hkind : scope.kind = .function) (hnames : ∀ y ∈ scope.names, y.2 = .local → scope.names.lookup y.1 = some .local) (hx : scope.names.lookup t = some .local)
    (hs : ∀ x, foldedSetIterable iter env x = pure x) (hsz : xs.length ≤ sizeLine) (hSm : Mono Sx) (hSl : Loc Sx) (ht : TabS h) (hsrc : Tr prog w A h (eval iter env) (IsSrc prog w A R xs))
    (helt : ∀ a v C H, a ∈ xs → Ext h H → R a v H → (∃ m, H.Ns C m ∧ m t = some v) → ∀ (s' : Shared) E', Ext H s'.heap → wpAny (model prog w) A (eval elt (compEnvC scope cl C env)) (fun y s'' => (Sx (f a) y s''.heap ∧ ∀ l, y = .ref l → (∃ o, Solid o ∧ h.get? l = some o) ∨ s'.heap.get? l = none) ∧ Go s' s'') E' s') :
    TrN prog w A h (eval (.ListComp elt [⟨.Name t pt, iter, [], 0⟩] scope pos) env) (IsL Sx (xs.map f)) := fun s E he => by
  have := ev_comp (elt := elt) (pt := pt) (pos := pos) (ifs := []) (R := R) (S := Sx) (xs := xs) (fun _ => true) f hclos hcell hkind hnames hx hsz hSm hSl hsrc (fun a v C H ha e hr hm => ⟨tests_nil, fun _ => helt a v C H ha e hr hm⟩) ht hs s E he
  rw [filter_true] at this
  exact this
theorem ev_compI (f : α → Int) (hclos : closureFor scope env = pure cl) (hcell : ∀ y ∈ scope.names, y.2 ≠ .cell) (hkind : scope.kind = .function) (hnames : ∀ y ∈ scope.names, y.2 = .local → scope.names.lookup y.1 = some .local) (hx : scope.names.lookup t = some .local)
    (hs : ∀ x, foldedSetIterable iter env x = pure x) (hsz : xs.length ≤ sizeLine) (ht : TabS h) (hsrc : Tr prog w A h (eval iter env) (IsSrc prog w A R xs))
    (helt : ∀ a v C H, a ∈ xs → Ext h H → R a v H → (∃ m, H.Ns C m ∧ m t = some v) → Tr prog w A H (eval elt (compEnvC scope cl C env)) (IsI (f a))) :
    TrN prog w A h (eval (.ListComp elt [⟨.Name t pt, iter, [], 0⟩] scope pos) env) (IsL IsI (xs.map f)) :=
  ev_compM f hclos hcell hkind hnames hx hs hsz mono_I loc_I ht hsrc fun a v C H ha e hr hm => Tr.eltI (helt a v C H ha e hr hm)
theorem ev_compVI (f : α → Int) (hclos : closureFor scope env = pure cl) (hcell : ∀ y ∈ scope.names, y.2 ≠ .cell) (hkind : scope.kind = .function) (hnames : ∀ y ∈ scope.names, y.2 = .local → scope.names.lookup y.1 = some .local) (hx : scope.names.lookup t = some .local)
    (hs : ∀ x, foldedSetIterable iter env x = pure x) (hsz : xs.length ≤ sizeLine) (ht : TabS h) (hsrc : Tr prog w A h (eval iter env) (IsSrcV prog w A R xs))
    (helt : ∀ a v C H, a ∈ xs → Ext h H → R a v H → (∃ m, H.Ns C m ∧ m t = some v) → Tr prog w A H (eval elt (compEnvC scope cl C env)) (IsI (f a))) :
    TrN prog w A h (eval (.ListComp elt [⟨.Name t pt, iter, [], 0⟩] scope pos) env) (IsL IsI (xs.map f)) := fun s E he => by
  have := ev_compV (elt := elt) (pt := pt) (pos := pos) (ifs := []) (R := R) (S := IsI) (xs := xs) (fun _ => true) f hclos hcell hkind hnames hx hsz mono_I loc_I hsrc (fun a v C H ha e hr hm => ⟨tests_nil, fun _ => Tr.eltI (helt a v C H ha e hr hm)⟩) ht hs s E he
  rw [filter_true] at this
  exact this
end

/-! the end of the law -/
def lastOf (lots : List (List Int)) : List Int := (lots[lots.length - 1]?).getD []
def minLot (last lot : List Int) : List Int := (upFrom 0 10).map fun t => if (last[t.toNat]?).getD 0 < (lot[t.toNat]?).getD 0 then (last[t.toNat]?).getD 0 else (lot[t.toNat]?).getD 0
def lessOf (lots : List (List Int)) : List (List Int) := lots.take (lots.length - 1)
def withOf (lots : List (List Int)) : List (List Int) := (lessOf lots).map (minLot (lastOf lots))
def comm (lots : List (List Int)) (k : Int) : Int := ((foundUpTo lots (2 ^ lots.length))[k.toNat]?).getD 0

structure End (lots : List (List Int)) : Prop where
  turn : ((upFrom 0 (lots.length + 1)).map fun k => comm lots k * (1 - 2 * (k.fmod 2))).sum = 10 - (callsOf lots).length
  rev : foundUpTo lots.reverse (2 ^ lots.reverse.length) = foundUpTo lots (2 ^ lots.length)
  split : ∀ k ∈ upFrom 2 ((lots.length : Int) - 2).toNat, comm lots k = comm (lessOf lots) k + comm (withOf lots) (k - 1)

section
variable {prog : Program} {w : World} {A : Around} {s₀ s : Shared} {lots : List (List Int)} {m cm : Str → Option Value}
theorem common_get (lots : List (List Int)) {k : Int} (h0 : 0 ≤ k) (hk : k ≤ lots.length) : (foundUpTo lots (2 ^ lots.length))[k.toNat]? = some (comm lots k) := by
  have h : k.toNat < (foundUpTo lots (2 ^ lots.length)).length := by rw [found_len]; omega
  unfold comm
  rw [List.getElem?_eq_getElem h]; rfl

theorem tail8 (G0 : Gm w s₀.heap) (hh : A.handled = none) (hd : A.depth + 50 < recursionLimit) (hu : A.units + 200 < cLine) (h1 : 1 ≤ lots.length) (h4 : lots.length ≤ 4) (hl : ∀ l ∈ lots, Lot l) (M : End lots) (F : Fm s₀ (envL w s₀) m cm s) (X : Ct prog w s₀ lots m cm s.heap) {tw : Tok} (hw : m "whole" = some (.int (callsOf lots).length tw)) :
    wpAny (model prog w) A (execs (lawB w.params 8) (envL w s₀)) (fun f s' => IsB true (rv f) s'.heap ∧ Go s₀ s') (fun _ _ => False) s := by
  have G := G0.up F.ext
  obtain ⟨tm, hm⟩ := X.many
  obtain ⟨lv, hlc, hlv⟩ := X.lot
  obtain ⟨cv, hcc, hcv⟩ := X.common
  have h10 : ∀ l ∈ lots, l.length = 10 := fun l h => (hl l h).1
  have hu64 : A.units + 64 < cLine := by omega
  refine wpAny_execs_cons (st_if (b := false) (tt_cast (tt_or (b1 := false) (b2 := false || false) (tt_cast (tt_ne (ev_callB (Φ := IsL IsI ((upFrom 0 (lots.length + 1)).map fun k => comm lots k * (1 - 2 * (k.fmod 2)))) (G.gl.bui rfl boot_sum (by decide) rfl rfl rfl rfl) (TrN.tr ?sumc) fun v h' _ hv => tr_sum hh hv)
    (ev_sub ev_int (F.loc (x := "whole") rfl hw).trI)) ?ne1) fun _ => tt_or (b1 := false) (b2 := false) (tt_cast (tt_cmp (Φ := IsL IsI (foundUpTo lots.reverse (2 ^ lots.reverse.length))) (Ψ := IsL IsI (foundUpTo lots (2 ^ lots.length))) ?rev (fun h' e => ((F.rdc (x := "common") rfl rfl hcc).up e).trP fun h'' e' => mono_LI _ _ _ _ (e.trans e') hcv) (fun u v h' h'' e1 e2 hu' hv' => tr_neL hu64 (mono_LI _ _ _ _ e2 hu') hv') rfl) ?ne2) fun _ => tt_or_nil) rfl) fun s1 g1 => ?_)
  case ne1 => rw [M.turn]; simp
  case ne2 => rw [M.rev]; simp
  case sumc =>
    refine ev_compI (R := IsI) (xs := upFrom 0 (lots.length + 1)) (fun k => comm lots k * (1 - 2 * (k.fmod 2))) (cl := [("common", s₀.heap.objs.size + 1 + 1)]) ?a1 ?a2 ?a3 ?a4 ?a5 ?a6 (by simp [upFrom, sizeLine]; omega) G.gl.tab
      (IsRng.src (ev_range1 (n := lots.length + 1) (G.gl.bui rfl boot_range (by decide) rfl rfl rfl rfl) hh (ev_cast (ev_add (F.loc (x := "many") rfl hm).trI ev_int) (by omega)) (by omega))) ?a7
    case a1 => rfl
    case a2 => decide
    case a3 => rfl
    case a4 => decide
    case a5 => rfl
    case a6 => exact fun _ => rfl
    rintro k u C H hk eH ⟨tk, rfl⟩ ⟨mC, hC, hCk⟩
    obtain ⟨j, hj⟩ := List.mem_iff_getElem?.mp hk
    obtain ⟨hjl, rfl⟩ := upFrom_get hj
    refine ev_mul (ev_item mono_I (xs := foundUpTo lots (2 ^ lots.length)) (Rd.trP (.cell _ rfl rfl rfl (eH.cell (show s.heap.IsCell _ (some cv) from hcc ▸ F.cell "common" _ rfl))) fun h' e' => mono_LI _ _ _ _ (eH.trans e') hcv) (Rd.trI (.loc mC rfl rfl hC hCk)) (by omega) (by omega) (common_get lots (by omega) (by omega)))
      (ev_sub ev_int (ev_mul ev_int (ev_mod (Rd.trI (.loc mC rfl rfl hC hCk)) ev_int (by decide)) ?b1 ?b2)) ?b3 ?b4
    all_goals (have := Int.fmod_nonneg_of_pos (0 + (j : Int)) (show (0 : Int) < 2 by decide); have := Int.fmod_lt_of_pos (0 + (j : Int)) (show (0 : Int) < 2 by decide); omega)
  case rev =>
    refine TrN.tr (evN_callF (Φ := IsL (IsL IsI) lots.reverse) G.gl.tab (G.gl.fn (x := "_law_common") rfl rfl rfl rfl) (G.gl.K 54 _ rfl) rfl (ev_rev (hs := ?hs) mono_LI ((F.rdc (x := "lots") rfl rfl hlc).trP (Φ := IsL (IsL IsI) lots) fun h' e => mono_LL _ _ _ _ e hlv) (ev_neg ev_int) (by omega)) fun v h' e hv => ?_)
    case hs => intro _ _; with_unfolding_all rfl
    exact common_spec (G.gl.up e) (by omega) (by omega) hh (by simpa using h4) (fun l hl' => h10 l (List.mem_reverse.mp hl')) hv
  simp only [Bool.false_eq_true, if_false]
  refine wpAny_execs_nil ?_
  have F1 := F.go g1
  have X1 := X.up g1.ext
  have G1 := G0.up F1.ext
  obtain ⟨lv1, hlc1, hlv1⟩ := X1.lot
  obtain ⟨cv1, hcc1, hcv1⟩ := X1.common
  have hlen1 : (lessOf lots).length = lots.length - 1 := by unfold lessOf; rw [List.length_take]; omega
  have hlm : ∀ l ∈ lessOf lots, l ∈ lots := fun l h => List.mem_of_mem_take h
  refine wpAny_execs_cons (st_assignC (c := s₀.heap.objs.size + 1 + 1 + 1 + 1) F1 (Φ := IsL IsI (foundUpTo (lessOf lots) (2 ^ (lessOf lots).length))) ?less rfl rfl fun v2 s2 s3 hv2 g2 F3 hd3 k3 => ?_)
  case less =>
    refine TrN.tr (evN_callF (Φ := IsL (IsL IsI) (lessOf lots)) G1.gl.tab (G1.gl.fn (x := "_law_common") rfl rfl rfl rfl) (G1.gl.K 54 _ rfl) rfl (ev_butLast (hs := ?hs) (xs := lots) mono_LI ((F1.rdc (x := "lots") rfl rfl hlc1).trP (Φ := IsL (IsL IsI) lots) fun h' e => mono_LL _ _ _ _ e hlv1) (ev_neg ev_int) (by omega)) fun v h' e hv => ?_)
    case hs => intro _ _; with_unfolding_all rfl
    exact common_spec (G1.gl.up e) (by omega) (by omega) hh (by omega) (fun l hl' => h10 l (hlm l hl')) hv
  have X3 : Ct prog w s₀ lots m (upd cm "less" v2) s3.heap := (X1.up g2.ext).at hd3 (fun d o hk _ g => by
    obtain ⟨o', _, _, g', hdd, _⟩ := hk.obj
    refine k3 d o ?_ g
    rintro rfl
    obtain ⟨o2, e2, d2⟩ := (F1.go g2).cell "less" _ rfl
    rw [g'] at e2; cases e2; rw [hdd] at d2; cases d2) (fun _ _ => rfl) (fun y hy => by rcases hy with rfl | rfl <;> rfl)
  have hless3 := hd3.ints hv2
  have G3 := G0.up F3.ext
  obtain ⟨lv3, hlc3, hlv3⟩ := X3.lot
  have hl1 : 1 ≤ lots.length := h1
  have hlast : lots[lots.length - 1]? = some (lastOf lots) := by unfold lastOf; rw [List.getElem?_eq_getElem (by omega)]; rfl
  have hlastm : lastOf lots ∈ lots := List.mem_of_getElem? hlast
  have hwlen : (withOf lots).length = lots.length - 1 := by unfold withOf; rw [List.length_map, hlen1]
  refine wpAny_execs_cons (st_assignC (c := s₀.heap.objs.size + 1 + 1 + 1 + 1 + 1) F3 (Φ := IsL IsI (foundUpTo (withOf lots) (2 ^ (withOf lots).length))) ?withs rfl rfl fun v4 s4 s5 hv4 g4 F5 hd5 k5 => ?_)
  case withs =>
    refine TrN.tr (evN_callF (Φ := IsL (IsL IsI) (((lessOf lots).filter fun _ => true).map (minLot (lastOf lots)))) G3.gl.tab (G3.gl.fn (x := "_law_common") rfl rfl rfl rfl) (G3.gl.K 54 _ rfl) rfl (TrN.tr fun s E he => ?nest) fun v h' e hv => ?last)
    case last =>
      rw [filter_true] at hv
      refine common_spec (G3.gl.up e) (by omega) (by omega) hh (by omega) (fun l hl' => ?_) hv
      obtain ⟨l0, _, rfl⟩ := List.mem_map.mp hl'
      simp [minLot, upFrom]
    case nest =>
      refine ev_compCell (h := s3.heap) (R := IsL IsI) (S := IsL IsI) (xs := lessOf lots) (fun _ => true) (minLot (lastOf lots)) (cl := [("lots", s₀.heap.objs.size + 1)]) ?n1 ?n2 ?n3 ?n4 ?n5 ?n6 (by rw [hlen1]; simp [sizeLine]; omega) mono_LI loc_LI
        ((ev_butLast (hs := ?hs2) (xs := lots) mono_LI ((F3.rdc (x := "lots") rfl rfl hlc3).trP (Φ := IsL (IsL IsI) lots) fun h' e => mono_LL _ _ _ _ e hlv3) (ev_neg ev_int) (by omega)).mono fun v h' _ hv => IsSrc.list (A := A) mono_LI hh hv) ?n7 G3.gl.tab ?n8 s E he
      case n1 => rfl
      case n2 => exact fun _ _ => rfl
      case n3 => exact fun _ => rfl
      case n4 => rfl
      case n5 => decide
      case n6 => exact fun _ _ => rfl
      case n8 => exact fun _ => rfl
      case hs2 => intro _ _; with_unfolding_all rfl
      rintro lot u C c H hlm' eH hu' _ hc
      have h10l := h10 lot (hlm lot hlm')
      have h10t := h10 _ hlastm
      refine ⟨tests_nil, fun _ => TrN.elt (ev_compI (R := IsI) (xs := upFrom 0 10) (fun t => if ((lastOf lots)[t.toNat]?).getD 0 < (lot[t.toNat]?).getD 0 then ((lastOf lots)[t.toNat]?).getD 0 else (lot[t.toNat]?).getD 0) (cl := [("lots", s₀.heap.objs.size + 1), ("lot", c)]) ?i1 ?i2 ?i3 ?i4 ?i5 ?i6 (by simp [upFrom, sizeLine]) (G3.up eH).gl.tab
        (IsRng.src (ev_range1 (n := 10) ((G3.up eH).gl.bui rfl boot_range (by decide) rfl rfl rfl rfl) hh ev_int (by omega))) ?i7)⟩
      case i1 => rfl
      case i2 => decide
      case i3 => rfl
      case i4 => decide
      case i5 => rfl
      case i6 => exact fun _ => rfl
      rintro k u2 C2 H2 hk eH2 ⟨tk, rfl⟩ ⟨mC, hC, hCk⟩
      obtain ⟨j, hj⟩ := List.mem_iff_getElem?.mp hk
      obtain ⟨hjl, rfl⟩ := upFrom_get hj
      have g1 : lot[((0 : Int) + (j : Int)).toNat]? = some ((lot[((0 : Int) + (j : Int)).toNat]?).getD 0) := by rw [List.getElem?_eq_getElem (by omega)]; rfl
      have g2 : (lastOf lots)[((0 : Int) + (j : Int)).toNat]? = some (((lastOf lots)[((0 : Int) + (j : Int)).toNat]?).getD 0) := by rw [List.getElem?_eq_getElem (by omega)]; rfl
      refine ev_callB2 (Φ := IsI ((lot[((0 : Int) + (j : Int)).toNat]?).getD 0)) (Φ2 := IsI (((lastOf lots)[((0 : Int) + (j : Int)).toNat]?).getD 0)) (((G3.up eH).up eH2).gl.bui rfl boot_min (by decide) rfl rfl rfl rfl)
        (ev_item mono_I (xs := lot) (Rd.trP (.cell _ rfl rfl rfl (eH2.cell hc)) fun h' e' => mono_LI _ _ _ _ (eH2.trans e') hu') (Rd.trI (.loc mC rfl rfl hC hCk)) (by omega) (by omega) g1)
        (fun h' e' => ev_item mono_I (xs := lastOf lots) (ev_itemNeg mono_LI (xs := lots) (Rd.trP (.cell _ rfl rfl rfl (e'.cell (eH2.cell (eH.cell (show s3.heap.IsCell _ (some lv3) from hlc3 ▸ F3.cell "lots" _ rfl))))) fun h'' e'' => mono_LL _ _ _ _ (((eH.trans eH2).trans e').trans e'') hlv3) (ev_neg ev_int) hlast (by omega)) (Rd.trI (.loc mC rfl rfl (e'.ns hC) hCk)) (by omega) (by omega) g2)
        fun v u h1 h2 e1 e2 ⟨tv, hv⟩ ⟨tu, hu⟩ => by subst hv; subst hu; exact tr_min hh
  have X5 : Ct prog w s₀ lots m (upd (upd cm "less" v2) "with_it" v4) s5.heap := (X3.up g4.ext).at hd5 (fun d o hk _ g => by
    obtain ⟨o', _, _, g', hdd, _⟩ := hk.obj
    refine k5 d o ?_ g
    rintro rfl
    obtain ⟨o2, e2, d2⟩ := (F3.go g4).cell "with_it" _ rfl
    rw [g'] at e2; cases e2; rw [hdd] at d2; cases d2) (fun _ _ => rfl) (fun y hy => by rcases hy with rfl | rfl <;> rfl)
  have hless5 := hd5.ints (mono_LI _ _ _ _ g4.ext hless3)
  have hwith5 := hd5.ints hv4
  have G5 := G0.up F5.ext
  obtain ⟨tm5, hm5⟩ := X5.many
  obtain ⟨cv5, hcc5, hcv5⟩ := X5.common
  refine wpAny_execs_cons (st_ret (Φ := IsB true) (ev_cmp (Φ := IsL IsI (((upFrom 2 ((lots.length : Int) - 2).toNat).filter fun _ => false).map id)) (Ψ := IsL IsI []) (TrN.tr fun s E he => ?fin) (fun _ _ => ev_nil) (fun u v h' h'' e1 e2 hu' hv' => ?fin2) rfl) fun v s6 hv g6 => ⟨hv, (F5.go g6).Go⟩)
  case fin2 =>
    have hu' := mono_LI _ _ _ _ e2 hu'
    rw [show ((upFrom 2 ((lots.length : Int) - 2).toNat).filter fun _ => false) = [] from by simp] at hu'
    exact tr_eqNil hu64 hu' hv'
  case fin =>
    refine ev_comp (h := s5.heap) (R := IsI) (xs := upFrom 2 ((lots.length : Int) - 2).toNat) (fun _ => false) id (cl := [("with_it", s₀.heap.objs.size + 1 + 1 + 1 + 1 + 1), ("less", s₀.heap.objs.size + 1 + 1 + 1 + 1), ("common", s₀.heap.objs.size + 1 + 1)]) ?f1 ?f2 ?f3 ?f4 ?f5 (by rw [upFrom_len]; simp [sizeLine]; omega) mono_I loc_I
      (IsRng.src (ev_range2 (G5.gl.bui rfl boot_range (by decide) rfl rfl rfl rfl) hh ev_int (F5.loc (x := "many") rfl hm5).trI (by decide) (by decide) (by omega) (by omega))) ?f6 G5.gl.tab ?f7 s E he
    case f1 => rfl
    case f2 => decide
    case f3 => rfl
    case f4 => decide
    case f5 => rfl
    case f7 => exact fun _ => rfl
    rintro k u C H hk eH ⟨tk, rfl⟩ ⟨mC, hC, hCk⟩
    have hsp := M.split k hk
    obtain ⟨j, hj⟩ := List.mem_iff_getElem?.mp hk
    obtain ⟨hjl, rfl⟩ := upFrom_get hj
    have c1 : s5.heap.IsCell (s₀.heap.objs.size + 1 + 1) (some cv5) := hcc5 ▸ F5.cell "common" _ rfl
    have c2 : s5.heap.IsCell (s₀.heap.objs.size + 1 + 1 + 1 + 1) (some v2) := F5.cell "less" _ rfl
    have c3 : s5.heap.IsCell (s₀.heap.objs.size + 1 + 1 + 1 + 1 + 1) (some v4) := F5.cell "with_it" _ rfl
    refine ⟨tests_one (tt_cast (tt_ne (ev_item mono_I (xs := foundUpTo lots (2 ^ lots.length)) (Rd.trP (.cell _ rfl rfl rfl (eH.cell c1)) fun h' e' => mono_LI _ _ _ _ (eH.trans e') hcv5) (Rd.trI (.loc mC rfl rfl hC hCk)) (by omega) (by omega) (common_get lots (by omega) (by omega)))
      (ev_add (ev_item mono_I (xs := foundUpTo (lessOf lots) (2 ^ (lessOf lots).length)) (Rd.trP (.cell _ rfl rfl rfl (eH.cell c2)) fun h' e' => mono_LI _ _ _ _ (eH.trans e') hless5) (Rd.trI (.loc mC rfl rfl hC hCk)) (by omega) (by omega) (common_get (lessOf lots) (by omega) (by omega)))
        (ev_item mono_I (xs := foundUpTo (withOf lots) (2 ^ (withOf lots).length)) (Rd.trP (.cell _ rfl rfl rfl (eH.cell c3)) fun h' e' => mono_LI _ _ _ _ (eH.trans e') hwith5) (ev_sub (Rd.trI (.loc mC rfl rfl hC hCk)) ev_int) (by omega) (by omega) (common_get (withOf lots) (by omega) (by omega))))) (by rw [hsp]; simp)), fun hf => nomatch hf⟩
end


theorem C_small : ∀ n k : Fin 11, C n k ≤ 1000 := by decide +kernel
def told (lots : List (List Int)) (few : Nat) : Int := ((upFrom 1 few).map fun k => comm lots k * (2 * (k.fmod 2) - 1)).sum
def just (lots : List (List Int)) (few : Nat) : Int := ((upFrom few (lots.length + 1 - few)).map fun k => comm lots k * (C k.toNat few : Int) * (1 - 2 * ((k - few).fmod 2))).sum
def absI (a : Int) : Int := if a < 0 then -a else a
structure Mid (lots : List (List Int)) (few : Nat) : Prop where
  c1 : ((((few : Int).fmod 2 == 1) && (decide (told lots few < (callsOf lots).length) && true)) || ((((few : Int).fmod 2 == 0) && (decide (((callsOf lots).length : Int) < told lots few) && true)) || false)) = false
  c2 : ((decide ((few : Int) < lots.length) && (decide (comm lots ((few : Int) + 1) < absI (told lots few - (callsOf lots).length)) && true)) || ((((few : Int) == lots.length) && ((told lots few != (callsOf lots).length) && true)) || false)) = false
  c3 : comm lots few = (((callsOf lots).map (·.2)).map fun o => (C o.toNat few : Int)).sum
  c4 : just lots few = ((((callsOf lots).map (·.2)).filter fun (o : Int) => o == (few : Int)).length : Int)

section
variable {prog : Program} {w : World} {A : Around} {s₀ s : Shared} {lots : List (List Int)} {m cm : Str → Option Value} {h h' : Heap}
theorem Ct.setL (x : Ct prog w s₀ lots m cm h) {y : Str} {v : Value} (hd : Hd h h') (hk : ∀ b o, b ≠ s₀.heap.objs.size → h.get? b = some o → h'.get? b = some o) (n1 : y ≠ "many") (n2 : y ≠ "calls") : Ct prog w s₀ lots (upd m y v) cm h' :=
  x.at hd (fun d o _ hn g => hk d o hn g) (fun z hz => by rcases hz with rfl | rfl <;> simp [upd, Ne.symm n1, Ne.symm n2]) fun _ _ => rfl
theorem Ct.setC (x : Ct prog w s₀ lots m cm s.heap) {y : Str} {v : Value} {c : Addr} (F : Fm s₀ (envL w s₀) m cm s) (hc : (envL w s₀).cells.lookup y = some c) (hk : ∀ b o, b ≠ c → s.heap.get? b = some o → h'.get? b = some o) (n1 : y ≠ "lots") (n2 : y ≠ "common") : Ct prog w s₀ lots m (upd cm y v) h' :=
  x.at (F.keepC hc hk) (fun d o hkv _ g => by
    obtain ⟨o', _, _, g', hdd, _⟩ := hkv.obj
    refine hk d o ?_ g
    rintro rfl
    obtain ⟨o2, e2, d2⟩ := F.cell _ _ hc
    rw [g'] at e2; cases e2; rw [hdd] at d2; cases d2) (fun _ _ => rfl) fun z hz => by rcases hz with rfl | rfl <;> simp [upd, Ne.symm n1, Ne.symm n2]

theorem tail6 (G0 : Gm w s₀.heap) (hh : A.handled = none) (hd : A.depth + 50 < recursionLimit) (hu : A.units + 200 < cLine) (h1 : 1 ≤ lots.length) (h4 : lots.length ≤ 4) (hl : ∀ l ∈ lots, Lot l) (M : End lots) (MM : ∀ few : Nat, 1 ≤ few → few ≤ lots.length → Mid lots few) (F : Fm s₀ (envL w s₀) m cm s) (X : Ct prog w s₀ lots m cm s.heap) :
    wpAny (model prog w) A (execs (lawB w.params 6) (envL w s₀)) (fun f s' => IsB true (rv f) s'.heap ∧ Go s₀ s') (fun _ _ => False) s := by
  have G := G0.up F.ext
  have hck : (callsOf lots).length ≤ 10 := keys_len (calls_keys lots)
  obtain ⟨d, hcl, hdk, hds, hdL⟩ := X.calls
  refine wpAny_execs_cons (st_assign (Φ := IsI (callsOf lots).length) F (ev_callB (Φ := IsD prog w (callsOf lots)) (G.gl.bui rfl boot_len (by decide) rfl rfl rfl rfl) ((F.loc (x := "calls") rfl hcl).trP fun h' e => ⟨d, rfl, hdk.up e, hds⟩) fun v h' _ hv => len_D (by omega) hv) rfl fun v1 s1 s2 hv1 g1 F2 d2 k2 => ?_)
  obtain ⟨tw, rfl⟩ := hv1
  have X2 := (X.up g1.ext).setL (y := "whole") (v := .int (callsOf lots).length tw) d2 k2 (by decide) (by decide)
  have G2 := G0.up F2.ext
  obtain ⟨tm, hm⟩ := X2.many
  refine wpAny_execs_cons (st_for (IsRng.src (ev_range2 (a := 1) (b := lots.length + 1) (G2.gl.bui rfl boot_range (by decide) rfl rfl rfl rfl) hh ev_int (ev_add (F2.loc (x := "many") rfl hm).trI ev_int) (by decide) (by decide) (by omega) (by omega))) fun v s3 hsrc g3 => ?_)
  have F3 := F2.go g3
  have hL1 : ((lots.length : Int) + 1 - 1).toNat = lots.length := by omega
  rw [hL1] at hsrc
  refine for_core hsrc F3 (tgtC (x := "few") (c := s₀.heap.objs.size + 1 + 1 + 1) rfl rfl) [s₀.heap.objs.size, s₀.heap.objs.size + 1 + 1 + 1] (fun b hb => ?_) (.head _) (.tail _ (.head _)) G0.gl.tab
    (fun i m cm h => Ct prog w s₀ lots m cm h ∧ ∃ tw, m "whole" = some (.int (callsOf lots).length tw)) (fun i m cm h h' ⟨a, b⟩ hk => ⟨a.nf hk, b⟩) ⟨X2.up g3.ext, tw, rfl⟩ ?_ ?_
  · simp only [List.mem_cons, List.not_mem_nil, or_false] at hb
    rcases hb with rfl | rfl
    · exact F3.vL _
    · exact F3.vC (n := "few") rfl _
  · rintro i a u m cm s4 s5 hi ⟨tu, rfl⟩ km F4 ⟨X4, tw4, hw4⟩ F5 k5
    obtain ⟨hiN, rfl⟩ := upFrom_get hi
    obtain ⟨few, hfew⟩ : ∃ few : Nat, few = i + 1 := ⟨_, rfl⟩
    have e0 : (1 : Int) + (i : Int) = (few : Int) := by omega
    rw [e0] at F5
    have Q := MM few (by omega) (by omega)
    have X5 : Ct prog w s₀ lots m (upd cm "few" (.int few tu)) s5.heap := X4.setC F4 (y := "few") rfl k5 (by decide) (by decide)
    obtain ⟨cv, hcc, hcv⟩ := X5.common
    have G5 := G0.up F5.ext
    have fewC : ∀ {s' : Shared} {m' : Str → Option Value}, Fm s₀ (envL w s₀) m' (upd cm "few" (.int few tu)) s' → s'.heap.IsCell (s₀.heap.objs.size + 1 + 1 + 1) (some (.int few tu)) := fun F' => F'.cell "few" _ rfl
    refine wpAny_execs_cons (st_assign (Φ := IsI (told lots few)) F5 (ev_callB (Φ := IsL IsI ((upFrom 1 few).map fun k => comm lots k * (2 * (k.fmod 2) - 1))) (G5.gl.bui rfl boot_sum (by decide) rfl rfl rfl rfl) (TrN.tr ?tolds) fun v h' _ hv => tr_sum hh hv) rfl fun v6 s6 s7 hv6 g6 F7 d7 k7 => ?_)
    case tolds =>
      have hrr : ((few : Int) + 1 - 1).toNat = few := by omega
      refine ev_compI (R := IsI) (xs := upFrom 1 few) (fun k => comm lots k * (2 * (k.fmod 2) - 1)) (cl := [("common", s₀.heap.objs.size + 1 + 1)]) ?a1 ?a2 ?a3 ?a4 ?a5 ?a6 (by simp [upFrom, sizeLine]; omega) G5.gl.tab
        (hrr ▸ IsRng.src (ev_range2 (a := 1) (b := few + 1) (G5.gl.bui rfl boot_range (by decide) rfl rfl rfl rfl) hh ev_int (ev_add (Rd.trI (F5.rdc (x := "few") rfl rfl rfl)) ev_int) (by decide) (by decide) (by omega) (by omega))) ?a7
      case a1 => rfl
      case a2 => decide
      case a3 => rfl
      case a4 => decide
      case a5 => rfl
      case a6 => exact fun _ => rfl
      rintro k u C H hk eH ⟨tk, rfl⟩ ⟨mC, hC, hCk⟩
      obtain ⟨j, hj⟩ := List.mem_iff_getElem?.mp hk
      obtain ⟨hjl, rfl⟩ := upFrom_get hj
      refine ev_mul (ev_item mono_I (xs := foundUpTo lots (2 ^ lots.length)) (Rd.trP (.cell _ rfl rfl rfl (eH.cell (show s5.heap.IsCell _ (some cv) from hcc ▸ F5.cell "common" _ rfl))) fun h' e' => mono_LI _ _ _ _ (eH.trans e') hcv) (Rd.trI (.loc mC rfl rfl hC hCk)) (by omega) (by omega) (common_get lots (by omega) (by omega)))
        (ev_sub (ev_mul ev_int (ev_mod (Rd.trI (.loc mC rfl rfl hC hCk)) ev_int (by decide)) ?b1 ?b2) ev_int) ?b3 ?b4
      all_goals (have := Int.fmod_nonneg_of_pos (1 + (j : Int)) (show (0 : Int) < 2 by decide); have := Int.fmod_lt_of_pos (1 + (j : Int)) (show (0 : Int) < 2 by decide); omega)
    obtain ⟨tt, rfl⟩ := hv6
    have X7 := (X5.up g6.ext).setL (y := "told") (v := .int (told lots few) tt) d7 k7 (by decide) (by decide)
    refine wpAny_execs_cons (st_if (b := false) (tt_cast (tt_or (b1 := ((few : Int).fmod 2 == 1) && (decide (told lots few < (callsOf lots).length) && true)) (b2 := (((few : Int).fmod 2 == 0) && (decide (((callsOf lots).length : Int) < told lots few) && true)) || false)
      (tt_and (tt_eq (ev_mod (Rd.trI (F7.rdc (x := "few") rfl rfl rfl)) ev_int (by decide)) ev_int) fun _ => tt_and (tt_lt (F7.loc (x := "told") rfl rfl).trI (F7.loc (x := "whole") rfl hw4).trI) fun _ => tt_and_nil)
      fun _ => tt_or (tt_and (tt_eq (ev_mod (Rd.trI (F7.rdc (x := "few") rfl rfl rfl)) ev_int (by decide)) ev_int) fun _ => tt_and (tt_gt (F7.loc (x := "told") rfl rfl).trI (F7.loc (x := "whole") rfl hw4).trI) fun _ => tt_and_nil) fun _ => tt_or_nil) Q.c1) fun s8 g8 => ?_)
    simp only [Bool.false_eq_true, if_false]
    refine wpAny_execs_nil ?_
    have F8 := F7.go g8
    have X8 := X7.up g8.ext
    have G8 := G0.up F8.ext
    obtain ⟨cv8, hcc8, hcv8⟩ := X8.common
    obtain ⟨tm8, hm8⟩ := X8.many
    refine wpAny_execs_cons (st_if (b := false) (tt_cast (tt_or (b1 := decide ((few : Int) < lots.length) && (decide (comm lots ((few : Int) + 1) < absI (told lots few - (callsOf lots).length)) && true)) (b2 := (((few : Int) == lots.length) && ((told lots few != (callsOf lots).length) && true)) || false)
      (tt_and (tt_lt (Rd.trI (F8.rdc (x := "few") rfl rfl rfl)) (F8.loc (x := "many") rfl hm8).trI) fun hlt => tt_and (tt_gt (ev_callB (Φ := IsI (told lots few - (callsOf lots).length)) (G8.gl.bui rfl boot_abs (by decide) rfl rfl rfl rfl) (ev_sub (F8.loc (x := "told") rfl rfl).trI (F8.loc (x := "whole") rfl hw4).trI) fun v h' _ ⟨t, e⟩ => by subst e; exact tr_abs)
        (ev_item mono_I (xs := foundUpTo lots (2 ^ lots.length)) ((F8.rdc (x := "common") rfl rfl hcc8).trP fun h' e => mono_LI _ _ _ _ e hcv8) (ev_add (Rd.trI (F8.rdc (x := "few") rfl rfl rfl)) ev_int) (by omega) (by omega) (common_get lots (by omega) (by have := of_decide_eq_true hlt; omega)))) fun _ => tt_and_nil)
      fun _ => tt_or (tt_and (tt_eq (Rd.trI (F8.rdc (x := "few") rfl rfl rfl)) (F8.loc (x := "many") rfl hm8).trI) fun _ => tt_and (tt_ne (F8.loc (x := "told") rfl rfl).trI (F8.loc (x := "whole") rfl hw4).trI) fun _ => tt_and_nil) fun _ => tt_or_nil) Q.c2) fun s9 g9 => ?_)
    simp only [Bool.false_eq_true, if_false]
    refine wpAny_execs_nil ?_
    have F9 := F8.go g9
    have X9 := X8.up g9.ext
    have G9 := G0.up F9.ext
    obtain ⟨cv9, hcc9, hcv9⟩ := X9.common
    obtain ⟨d9, hcl9, hdk9, hds9, hdL9⟩ := X9.calls
    refine wpAny_execs_cons (st_if (b := false) (tt_cast (tt_ne (ev_item mono_I (xs := foundUpTo lots (2 ^ lots.length)) ((F9.rdc (x := "common") rfl rfl hcc9).trP fun h' e => mono_LI _ _ _ _ e hcv9) (Rd.trI (F9.rdc (x := "few") rfl rfl rfl)) (by omega) (by omega) (common_get lots (by omega) (by omega)))
      (ev_callB (Φ := IsL IsI (((callsOf lots).map (·.2)).map fun o => (C o.toNat few : Int))) (G9.gl.bui rfl boot_sum (by decide) rfl rfl rfl rfl) (TrN.tr ?c3) fun v h' _ hv => tr_sum hh hv)) (by rw [Q.c3]; simp)) fun s10 g10 => ?_)
    case c3 =>
      refine ev_compVI (R := IsI) (xs := (callsOf lots).map (·.2)) (fun o => (C o.toNat few : Int)) (cl := [("few", s₀.heap.objs.size + 1 + 1 + 1)]) ?e1 ?e2 ?e3 ?e4 ?e5 ?e6 (by rw [List.length_map]; simp [sizeLine]; omega) G9.gl.tab
        ((ev_values (hline := ?hl1) (hbase := ?hb1) (d := d9) ((F9.loc (x := "calls") rfl hcl9).trP (Φ := AtD prog w d9 (callsOf lots)) fun h' e => ⟨rfl, hdk9.up e, hds9⟩)).mono fun v h' _ hv => src_values hh hv) ?e7
      case hl1 => rfl
      case hb1 => rfl
      case e1 => rfl
      case e2 => decide
      case e3 => rfl
      case e4 => decide
      case e5 => rfl
      case e6 => exact fun _ => rfl
      rintro o u C9 H ho eH ⟨tk, rfl⟩ ⟨mC, hC, hCk⟩
      obtain ⟨n, rfl, hn1, hn2⟩ := calls_val ho
      refine ev_callF2 (Φ := IsI n) (Φ2 := IsI few) ((G9.up eH).gl.fn (x := "_law_ways") rfl rfl rfl rfl) ((G9.up eH).gl.K 61 _ rfl) rfl (Rd.trI (.loc mC rfl rfl hC hCk)) (fun h' e => Rd.trI (.cell _ rfl rfl rfl (e.cell (eH.cell (fewC F9))))) fun v u h1 h2 e1 e2 ⟨tv, hv⟩ ⟨tu, hu⟩ => ?_
      subst hv; subst hu
      rw [Int.toNat_natCast]
      exact ways_spec (((G9.up eH).up e1).up e2).gl (by omega) hh (by omega) (by omega)
    simp only [Bool.false_eq_true, if_false]
    refine wpAny_execs_nil ?_
    have F10 := F9.go g10
    have X10 := X9.up g10.ext
    have G10 := G0.up F10.ext
    obtain ⟨cv10, hcc10, hcv10⟩ := X10.common
    obtain ⟨tm10, hm10⟩ := X10.many
    have hlen4 : ((lots.length : Int) + 1 - few).toNat = lots.length + 1 - few := by omega
    refine wpAny_execs_cons (st_assign (Φ := IsI (just lots few)) F10 (ev_callB (Φ := IsL IsI ((upFrom few (lots.length + 1 - few)).map fun k => comm lots k * (C k.toNat few : Int) * (1 - 2 * ((k - few).fmod 2)))) (G10.gl.bui rfl boot_sum (by decide) rfl rfl rfl rfl) (TrN.tr ?justs) fun v h' _ hv => tr_sum hh hv) rfl fun v11 s11 s12 hv11 g11 F12 d12 k12 => ?_)
    case justs =>
      refine ev_compI (R := IsI) (xs := upFrom few (lots.length + 1 - few)) (fun k => comm lots k * (C k.toNat few : Int) * (1 - 2 * ((k - few).fmod 2))) (cl := [("few", s₀.heap.objs.size + 1 + 1 + 1), ("common", s₀.heap.objs.size + 1 + 1)]) ?i1 ?i2 ?i3 ?i4 ?i5 ?i6 (by simp [upFrom, sizeLine]; omega) G10.gl.tab
        (hlen4 ▸ IsRng.src (ev_range2 (a := few) (b := lots.length + 1) (G10.gl.bui rfl boot_range (by decide) rfl rfl rfl rfl) hh (Rd.trI (F10.rdc (x := "few") rfl rfl rfl)) (ev_add (F10.loc (x := "many") rfl hm10).trI ev_int) (by omega) (by omega) (by omega) (by omega))) ?i7
      case i1 => rfl
      case i2 => decide
      case i3 => rfl
      case i4 => decide
      case i5 => rfl
      case i6 => exact fun _ => rfl
      rintro k u C9 H hk eH ⟨tk, rfl⟩ ⟨mC, hC, hCk⟩
      obtain ⟨j, hj⟩ := List.mem_iff_getElem?.mp hk
      obtain ⟨hjl, rfl⟩ := upFrom_get hj
      obtain ⟨kn, hkn⟩ : ∃ kn : Nat, (few : Int) + (j : Int) = kn := ⟨few + j, by omega⟩
      rw [hkn] at hCk ⊢
      have fc := eH.cell (fewC F10)
      have hCs : C kn few ≤ 1000 := C_small ⟨kn, by omega⟩ ⟨few, by omega⟩
      refine ev_mul (ev_mul (ev_item mono_I (xs := foundUpTo lots (2 ^ lots.length)) (Rd.trP (.cell _ rfl rfl rfl (eH.cell (show s10.heap.IsCell _ (some cv10) from hcc10 ▸ F10.cell "common" _ rfl))) fun h' e' => mono_LI _ _ _ _ (eH.trans e') hcv10) (Rd.trI (.loc mC rfl rfl hC hCk)) (by omega) (by omega) (common_get lots (by omega) (by omega)))
        (ev_callF2 (Φ := IsI kn) (Φ2 := IsI few) ((G10.up eH).gl.fn (x := "_law_ways") rfl rfl rfl rfl) ((G10.up eH).gl.K 61 _ rfl) rfl (Rd.trI (.loc mC rfl rfl hC hCk)) (fun h' e => Rd.trI (.cell _ rfl rfl rfl (e.cell fc))) fun v u h1 h2 e1 e2 ⟨tv, hv⟩ ⟨tu, hu⟩ => ?ways) ?b5 ?b6)
        (ev_sub ev_int (ev_mul ev_int (ev_mod (ev_sub (Rd.trI (.loc mC rfl rfl hC hCk)) (Rd.trI (.cell _ rfl rfl rfl fc))) ev_int (by decide)) ?w1 ?w2)) ?w3 ?w4
      case ways =>
        subst hv; subst hu
        rw [Int.toNat_natCast]
        exact ways_spec (((G10.up eH).up e1).up e2).gl (by omega) hh (by omega) (by omega)
      case b5 => rw [Int.toNat_natCast]; omega
      case b6 => rw [Int.toNat_natCast]; omega
      all_goals (have := Int.fmod_nonneg_of_pos ((kn : Int) - few) (show (0 : Int) < 2 by decide); have := Int.fmod_lt_of_pos ((kn : Int) - few) (show (0 : Int) < 2 by decide); omega)
    obtain ⟨tj, rfl⟩ := hv11
    have X12 := (X10.up g11.ext).setL (y := "just") (v := .int (just lots few) tj) d12 k12 (by decide) (by decide)
    have G12 := G0.up F12.ext
    obtain ⟨d12', hcl12, hdk12, hds12, hdL12⟩ := X12.calls
    refine wpAny_execs_cons (st_if (b := false) (tt_cast (tt_ne (F12.loc (x := "just") rfl rfl).trI (ev_callB (Φ := IsL IsI ((((callsOf lots).map (·.2)).filter fun (o : Int) => o == (few : Int)).map id)) (G12.gl.bui rfl boot_len (by decide) rfl rfl rfl rfl) (TrN.tr fun s E he => ?c5) fun v h' _ hv => tr_len hv ?c6)) (by rw [Q.c4, List.length_map]; simp)) fun s13 g13 => ?_)
    case c6 =>
      rw [List.length_map]
      have := List.length_filter_le (fun (o : Int) => o == (few : Int)) ((callsOf lots).map (·.2))
      rw [List.length_map] at this
      omega
    case c5 =>
      refine ev_compV (h := s12.heap) (R := IsI) (xs := (callsOf lots).map (·.2)) (fun o => o == (few : Int)) id (cl := [("few", s₀.heap.objs.size + 1 + 1 + 1)]) ?l1 ?l2 ?l3 ?l4 ?l5 (by rw [List.length_map]; simp [sizeLine]; omega) mono_I loc_I
        ((ev_values (hline := ?hl2) (hbase := ?hb2) (d := d12') ((F12.loc (x := "calls") rfl hcl12).trP (Φ := AtD prog w d12' (callsOf lots)) fun h' e => ⟨rfl, hdk12.up e, hds12⟩)).mono fun v h' _ hv => src_values hh hv) ?l6 G12.gl.tab ?l7 s E he
      case hl2 => rfl
      case hb2 => rfl
      case l1 => rfl
      case l2 => decide
      case l3 => rfl
      case l4 => decide
      case l5 => rfl
      case l7 => exact fun _ => rfl
      rintro o u C9 H ho eH ⟨tk, rfl⟩ ⟨mC, hC, hCk⟩
      exact ⟨tests_one (tt_eq (Rd.trI (.loc mC rfl rfl hC hCk)) (Rd.trI (.cell _ rfl rfl rfl (eH.cell (fewC F12))))), fun _ => Tr.eltI (Rd.trI (.loc mC rfl rfl hC hCk))⟩
    simp only [Bool.false_eq_true, if_false]
    refine wpAny_execs_nil (wpAny_execs_nil (.inl ⟨rfl, ⟨_, _, F12.go g13, X12.up g13.ext, tw4, hw4⟩, ?_⟩))
    exact ((g6.ext.km.trans (.of_but (.head _) k7)).trans (((g8.trans g9).trans g10).trans g11).ext.km).trans ((KM.of_but (.head _) k12).trans g13.ext.km)
  · rintro m' cm' s' F' ⟨X', tw', hw'⟩ _
    exact tail8 G0 hh hd hu h1 h4 hl M F' X' hw'
end


structure Fst (lots : List (List Int)) : Prop where
  a : ((callsOf lots).map (·.2)).sum = (lots.map List.sum).sum
  b : comm lots 0 = 10
  c : ((callsOf lots).map (·.2)).sum = comm lots 1

section
variable {prog : Program} {w : World} {A : Around} {s₀ s : Shared} {lots : List (List Int)} {m cm : Str → Option Value} {h h' : Heap}
theorem tail5 (G0 : Gm w s₀.heap) (hh : A.handled = none) (hd : A.depth + 50 < recursionLimit) (hu : A.units + 200 < cLine) (h1 : 1 ≤ lots.length) (h4 : lots.length ≤ 4) (hl : ∀ l ∈ lots, Lot l) (M : End lots) (MM : ∀ few : Nat, 1 ≤ few → few ≤ lots.length → Mid lots few) (MF : Fst lots) (F : Fm s₀ (envL w s₀) m cm s) (X : Ct prog w s₀ lots m cm s.heap) :
    wpAny (model prog w) A (execs (lawB w.params 5) (envL w s₀)) (fun f s' => IsB true (rv f) s'.heap ∧ Go s₀ s') (fun _ _ => False) s := by
  have G := G0.up F.ext
  obtain ⟨d, hcl, hdk, hds, hdL⟩ := X.calls
  obtain ⟨lv, hlc, hlv⟩ := X.lot
  obtain ⟨cv, hcc, hcv⟩ := X.common
  have cnt : ∀ v h', Ext s.heap h' → IsD prog w (callsOf lots) v h' → Tr prog w A h' (call (.ref 28) [v]) (IsI ((callsOf lots).map (·.2)).sum) := fun v h' e hv => count_spec (G.up e).gl (by omega) hh hv
  refine wpAny_execs_cons (st_if (b := false) (tt_cast (tt_or (b1 := false) (b2 := false || (false || false)) (tt_cast (tt_ne (ev_callF (Φ := IsD prog w (callsOf lots)) (G.gl.fn (x := "count_calls") rfl rfl rfl rfl) (G.gl.K 28 _ rfl) rfl ((F.loc (x := "calls") rfl hcl).trP fun h' e => ⟨d, rfl, hdk.up e, hds⟩) cnt)
      (ev_callB (Φ := IsL IsI (lots.map List.sum)) (G.gl.bui rfl boot_sum (by decide) rfl rfl rfl rfl) (TrN.tr ?sums) fun v h' _ hv => tr_sum hh hv)) (by rw [MF.a]; simp))
    fun _ => tt_or (b1 := false) (b2 := false || false) (tt_cast (tt_ne (ev_item mono_I (xs := foundUpTo lots (2 ^ lots.length)) ((F.rdc (x := "common") rfl rfl hcc).trP fun h' e => mono_LI _ _ _ _ e hcv) ev_int (by decide) (by decide) (common_get lots (by decide) (by omega))) ev_int) (by rw [MF.b]; rfl))
    fun _ => tt_or (b1 := false) (b2 := false) (tt_cast (tt_ne (ev_callF (Φ := IsD prog w (callsOf lots)) (G.gl.fn (x := "count_calls") rfl rfl rfl rfl) (G.gl.K 28 _ rfl) rfl ((F.loc (x := "calls") rfl hcl).trP fun h' e => ⟨d, rfl, hdk.up e, hds⟩) cnt)
      (ev_item mono_I (xs := foundUpTo lots (2 ^ lots.length)) ((F.rdc (x := "common") rfl rfl hcc).trP fun h' e => mono_LI _ _ _ _ e hcv) ev_int (by decide) (by decide) (common_get lots (by decide) (by omega)))) (by rw [MF.c]; simp)) fun _ => tt_or_nil) rfl) fun s1 g1 => ?_)
  case sums =>
    refine ev_compI (R := IsL IsI) (xs := lots) List.sum (cl := []) ?a1 ?a2 ?a3 ?a4 ?a5 ?a6 (by simp [sizeLine]; omega) G.gl.tab (((F.rdc (x := "lots") rfl rfl hlc).trP (Φ := IsL (IsL IsI) lots) fun h' e => mono_LL _ _ _ _ e hlv).mono fun v h' _ hv => IsSrc.list mono_LI hh hv) ?a7
    case a1 => rfl
    case a2 => decide
    case a3 => rfl
    case a4 => decide
    case a5 => rfl
    case a6 => exact fun _ => rfl
    rintro l u C H hk eH hlu ⟨mC, hC, hCk⟩
    exact ev_callB (Φ := IsL IsI l) ((G.up eH).gl.bui rfl boot_sum (by decide) rfl rfl rfl rfl) (Rd.trP (.loc mC rfl rfl hC hCk) fun h' e => mono_LI _ _ _ _ e hlu) fun v h' _ hv => tr_sum hh hv
  simp only [Bool.false_eq_true, if_false]
  exact wpAny_execs_nil (tail6 G0 hh hd hu h1 h4 hl M MM (F.go g1) (X.up g1.ext))

/-- while the table is made -/
structure Cu (prog : Program) (w : World) (s₀ : Shared) (lots : List (List Int)) (kv : List (Int × Int)) (m cm : Str → Option Value) (h : Heap) : Prop where
  many : ∃ t, m "many" = some (.int lots.length t)
  lot : ∃ lv, cm "lots" = some lv ∧ IsL (IsL IsI) lots lv h
  common : ∃ cv, cm "common" = some cv ∧ IsL IsI (foundUpTo lots (2 ^ lots.length)) cv h
  calls : ∃ d, m "calls" = some (.ref d) ∧ IsKV prog w kv d h ∧ (d == sysModules) = false ∧ d ≠ s₀.heap.objs.size
theorem Cu.at {kv : List (Int × Int)} {m' cm' : Str → Option Value} (x : Cu prog w s₀ lots kv m cm h) (hd : Hd h h') (hD : ∀ d o, IsKV prog w kv d h → d ≠ s₀.heap.objs.size → h.get? d = some o → h'.get? d = some o) (hm : ∀ y, y = "many" ∨ y = "calls" → m' y = m y) (hcm : ∀ y, y = "lots" ∨ y = "common" → cm' y = cm y) : Cu prog w s₀ lots kv m' cm' h' := by
  obtain ⟨⟨t, a⟩, ⟨lv, b1, b2⟩, ⟨cv, c1, c2⟩, d, d1, d2, d3, d4⟩ := x
  exact ⟨⟨t, (hm _ (.inl rfl)).trans a⟩, ⟨lv, (hcm _ (.inl rfl)).trans b1, hd.lots b2⟩, ⟨cv, (hcm _ (.inr rfl)).trans c1, hd.ints c2⟩, d, (hm _ (.inr rfl)).trans d1, d2.at (fun o g => hD d o d2 d4 g) hd, d3, d4⟩
theorem Cu.up {kv : List (Int × Int)} (x : Cu prog w s₀ lots kv m cm h) (e : Ext h h') : Cu prog w s₀ lots kv m cm h' :=
  x.at e.hd (fun d o hk _ g => by obtain ⟨o', _, _, g', hd, _⟩ := hk.obj; rw [g] at g'; cases g'; exact e.solid (solid_dict hd) g) (fun _ _ => rfl) fun _ _ => rfl
theorem Cu.nf {kv : List (Int × Int)} (x : Cu prog w s₀ lots kv m cm h) (hk : ∀ b o, (∀ vs, o.data ≠ .fields vs) → h.get? b = some o → h'.get? b = some o) : Cu prog w s₀ lots kv m cm h' :=
  x.at (fun b o xs n d e => hk b o (by rw [d]; nofun) e) (fun d o hkv _ g => by obtain ⟨o', _, _, g', hd, _⟩ := hkv.obj; rw [g] at g'; cases g'; exact hk d _ (by rw [hd]; nofun) g) (fun _ _ => rfl) fun _ _ => rfl
theorem Cu.setL {kv : List (Int × Int)} (x : Cu prog w s₀ lots kv m cm h) {y : Str} {v : Value} (hd : Hd h h') (hk : ∀ b o, b ≠ s₀.heap.objs.size → h.get? b = some o → h'.get? b = some o) (n1 : y ≠ "many") (n2 : y ≠ "calls") : Cu prog w s₀ lots kv (upd m y v) cm h' :=
  x.at hd (fun d o _ hn g => hk d o hn g) (fun z hz => by rcases hz with rfl | rfl <;> simp [upd, Ne.symm n1, Ne.symm n2]) fun _ _ => rfl
theorem Cu.put {kv kv' : List (Int × Int)} (x : Cu prog w s₀ lots kv m cm h) {d : Addr} (hd : Hd h h') (y : IsKV prog w kv' d h') (hs : (d == sysModules) = false) (hL : d ≠ s₀.heap.objs.size) : Cu prog w s₀ lots kv' (upd m "calls" (.ref d)) cm h' := by
  obtain ⟨⟨t, a⟩, ⟨lv, b1, b2⟩, ⟨cv, c1, c2⟩, _⟩ := x
  exact ⟨⟨t, a⟩, ⟨lv, b1, hd.lots b2⟩, ⟨cv, c1, hd.ints c2⟩, d, rfl, y, hs, hL⟩

theorem evN_callF2 {env : Env} {f : Str} {a : Addr} {o : Obj} {fd : FuncData} {p pos : Pos} {e e2 : PySem.Expr} {Φ Φ2 Ψ : Value → Heap → Prop} (ht : TabS h) (rf : Rd env f (.ref a) h) (ho : h.get? a = some o) (hd : o.data = .func fd) (he : Tr prog w A h (eval e env) Φ) (he2 : ∀ h', Ext h h' → Tr prog w A h' (eval e2 env) Φ2)
    (hc : ∀ v u h' h'', Ext h h' → Ext h' h'' → Φ v h' → Φ2 u h'' → TrN prog w A h'' (call (.ref a) [v, u]) Ψ)
    (hs : starEach [e, e2] env = (false, eval e env) :: starEach [e2] env := by rfl) (hs2 : starEach [e2] env = [(false, eval e2 env)] := by rfl) (hdb : (f == ("__debug__" : Str)) = false := by decide) : TrN prog w A h (eval (.Call (.Name f p) [e, e2] [] pos) env) Ψ := fun _ _ hx =>
  Call_ ((rf.up hx).wp hdb (callWith_def hd (args_cons (he.go hx fun _ _ hv g1 => args_cons ((he2 _ (hx.trans g1.ext)).go (.refl _) fun _ _ hu g2 => args_nil ⟨((hx.trans g1.ext).trans g2.ext).solid (solid_func hd) ho, wpAny_mono (hc _ _ _ _ (hx.trans g1.ext) g2.ext hv hu _ _ (.refl _)) (fun _ _ ⟨⟨a, D, e, hn⟩, g3⟩ => ⟨⟨a, D, e, fresh_back (g1.trans g2).ext (hx.tab ht) hn⟩, (g1.trans g2).trans g3⟩) fun _ _ x => x⟩) hs2) hs) hs))

theorem tail4 (G0 : Gm w s₀.heap) (hh : A.handled = none) (hd : A.depth + 50 < recursionLimit) (hu : A.units + 200 < cLine) (h1 : 1 ≤ lots.length) (h4 : lots.length ≤ 4) (hl : ∀ l ∈ lots, Lot l) (M : End lots) (MM : ∀ few : Nat, 1 ≤ few → few ≤ lots.length → Mid lots few) (MF : Fst lots) (F : Fm s₀ (envL w s₀) m cm s) (X : Cu prog w s₀ lots [] m cm s.heap) :
    wpAny (model prog w) A (execs (lawB w.params 4) (envL w s₀)) (fun f s' => IsB true (rv f) s'.heap ∧ Go s₀ s') (fun _ _ => False) s := by
  have G := G0.up F.ext
  obtain ⟨lv, hlc, hlv⟩ := X.lot
  refine wpAny_execs_cons (st_for (Φ := IsSrc prog w A (IsL IsI) lots) (((F.rdc (x := "lots") rfl rfl hlc).trP (Φ := IsL (IsL IsI) lots) fun h' e => mono_LL _ _ _ _ e hlv).mono fun v h' _ hv => IsSrc.list mono_LI hh hv) fun v s1 hsrc g1 => ?_)
  have F1 := F.go g1
  have X1 := X.up g1.ext
  have callsTake : ∀ {i : Nat} {lot : List Int}, lots[i]? = some lot → callsOf (lots.take (i + 1)) = stepLot lot (callsOf (lots.take i)) 10 := fun {i lot} hi => by
    unfold callsOf
    rw [List.take_add_one, hi, List.foldl_append]; rfl
  refine for_core hsrc F1 (tgtL (x := "lot") rfl) [s₀.heap.objs.size] (fun b hb => ?_) (.head _) (.head _) G0.gl.tab
    (fun i m cm h => Cu prog w s₀ lots (callsOf (lots.take i)) m cm h) (fun i m cm h h' a hk => a.nf hk) X1 ?_ ?_
  · simp only [List.mem_singleton] at hb; subst hb; exact F1.vL _
  · rintro i lot lotv m cm s2 s3 hi hlot km F2 X2 F3 k3
    have hlotm : lot ∈ lots := List.mem_of_getElem? hi
    have hL := hl lot hlotm
    have hlot2 : IsL IsI lot lotv s2.heap := (km.hd (fun b hb => by simp only [List.mem_singleton] at hb; subst hb; obtain ⟨o, _, _, g, d, _⟩ := F1.ns; exact ⟨o, g, by rw [d]; nofun⟩)).ints hlot
    have d3 : Hd s2.heap s3.heap := F2.keepL k3
    have hlot3 := d3.ints hlot2
    have X3 := X2.setL (y := "lot") (v := lotv) d3 k3 (by decide) (by decide)
    have G3 := G0.up F3.ext
    refine wpAny_execs_cons (st_for (IsRng.src (ev_range1 (n := 10) (G3.gl.bui rfl boot_range (by decide) rfl rfl rfl rfl) hh ev_int (by omega))) fun v s4 hsrc4 g4 => ?_)
    have F4 := F3.go g4
    have kvl : ∀ j, j ≤ 10 → (stepLot lot (callsOf (lots.take i)) j).length ≤ 10 := fun j hj => keys_len (step_keys (calls_keys _) j hj)
    refine for_core hsrc4 F4 (tgtL (x := "thing") rfl) [s₀.heap.objs.size] (fun b hb => ?_) (.head _) (.head _) G0.gl.tab
      (fun j m cm h => Cu prog w s₀ lots (stepLot lot (callsOf (lots.take i)) j) m cm h ∧ ∃ lw, m "lot" = some lw ∧ IsL IsI lot lw h) (fun j m cm h h' ⟨a, lw, b, c⟩ hk => ⟨a.nf hk, lw, b, Hd.ints (fun b o xs n d e => hk b o (by rw [d]; nofun) e) c⟩) ⟨X3.up g4.ext, lotv, rfl, mono_LI _ _ _ _ g4.ext hlot3⟩ ?_ ?_
    · simp only [List.mem_singleton] at hb; subst hb; exact F4.vL _
    · rintro j a u m cm s5 s6 hj ⟨tu, rfl⟩ km5 F5 ⟨X5, lw, hlw, hlw5⟩ F6 k6
      obtain ⟨hj10, rfl⟩ := upFrom_get hj
      have e0 : (0 : Int) + (j : Int) = (j : Int) := by omega
      rw [e0] at F6
      have d6 : Hd s5.heap s6.heap := F5.keepL k6
      have hlw6 := d6.ints hlw5
      have X6 := X5.setL (y := "thing") (v := .int j tu) d6 k6 (by decide) (by decide)
      have hbit : lot[((j : Int)).toNat]? = some (bitAt lot j) := by rw [Int.toNat_natCast]; unfold bitAt; rw [List.getElem?_eq_getElem (by rw [hL.1]; exact hj10)]; rfl
      refine wpAny_execs_cons (st_if (tt_eq (ev_item mono_I (xs := lot) ((F6.loc (x := "lot") rfl (show upd m "thing" _ "lot" = some lw from hlw)).trP fun h' e => mono_LI _ _ _ _ e hlw6) (F6.loc (x := "thing") rfl rfl).trI (by omega) (by omega) hbit) ev_int) fun s7 g7 => ?_)
      have F7 := F6.go g7
      have X7 := X6.up g7.ext
      have hlw7 := mono_LI _ _ _ _ g7.ext hlw6
      by_cases hb : bitAt lot j = 1
      · rw [show (bitAt lot j == 1) = true from by simp [hb]]
        have G7 := G0.up F7.ext
        obtain ⟨dd, hdd, hddk, hdds, hddL⟩ := X7.calls
        have kvj := kvl j (by omega)
        refine wpAny_execs_cons (st_assign (Φ := fun v h => IsD prog w (addK (stepLot lot (callsOf (lots.take i)) j) [((j : Int), 1)]) v h ∧ ∃ D, v = .ref D ∧ s7.heap.get? D = none) F7 (fun s8 E8 e8 => wpAny_mono ((?add : TrN prog w A s7.heap _ (IsD prog w (addK (stepLot lot (callsOf (lots.take i)) j) [((j : Int), 1)]))) s8 E8 e8) (fun v s' ⟨⟨a, D, e, hn⟩, g⟩ => ⟨⟨a, D, e, fresh_back e8 G7.gl.tab hn⟩, g⟩) fun _ _ e => e) rfl fun v8 s8 s9 hv8 g8 F9 d9 k9 => ?_)
        case add =>
          refine evN_callF2 (Φ := IsD prog w (stepLot lot (callsOf (lots.take i)) j)) (Φ2 := IsD prog w [((j : Int), 1)]) G7.gl.tab (G7.gl.fn (x := "add_callers") rfl rfl rfl rfl) (G7.gl.K 21 _ rfl) rfl ((F7.loc (x := "calls") rfl hdd).trP fun h' e => ⟨dd, rfl, hddk.up e, hdds⟩)
            (fun h' e => ev_dict1 (by omega) (G7.up e).gl (((F7.loc (x := "thing") rfl rfl).up e).trI)) fun v u h' h'' e1 e2 hv hu' => ?_
          exact add_spec ((G7.up e1).up e2).gl (by omega) (by omega) hh (by omega) (by simp) (mono_D _ _ _ _ e2 hv) hu'
        obtain ⟨⟨D, rfl, hDk, hDs⟩, D', eD, hDn⟩ := hv8
        cases eD
        have hDL : D ≠ s₀.heap.objs.size := fun e => by obtain ⟨o, _, _, g, _⟩ := F7.ns; rw [e] at hDn; rw [show (envL w s₀).locals = s₀.heap.objs.size from rfl, hDn] at g; cases g
        refine wpAny_execs_nil (wpAny_execs_nil (.inl ⟨rfl, ⟨_, _, F9, ?_, lw, hlw, d9.ints (mono_LI _ _ _ _ g8.ext hlw7)⟩, g7.ext.km.trans (g8.ext.km.trans (.of_but (.head _) k9))⟩))
        rw [stepLot, if_pos hb]
        exact (X7.up g8.ext).put d9 (hDk.at (fun o e => k9 D o hDL e) d9) hDs hDL
      · rw [show (bitAt lot j == 1) = false from by simp [hb]]
        refine wpAny_execs_nil (wpAny_execs_nil (.inl ⟨rfl, ⟨_, _, F7, ?_, lw, hlw, hlw7⟩, g7.ext.km⟩))
        rw [stepLot, if_neg hb]
        exact X7
    · rintro m' cm' s' F' ⟨X', _⟩ km'
      refine wpAny_execs_nil (.inl ⟨rfl, ⟨m', cm', F', ?_⟩, g4.ext.km.trans km'⟩)
      rw [callsTake hi]
      exact X'
  · rintro m' cm' s' F' X' _
    rw [List.take_length] at X'
    exact tail5 G0 hh hd hu h1 h4 hl M MM MF F' ⟨X'.many, X'.lot, X'.common, X'.calls⟩
end


section
variable {prog : Program} {w : World} {A : Around} {s₀ s : Shared} {lots : List (List Int)} {m cm : Str → Option Value} {h h' : Heap}
theorem tail3 (G0 : Gm w s₀.heap) (hh : A.handled = none) (hd : A.depth + 50 < recursionLimit) (hu : A.units + 200 < cLine) (h1 : 1 ≤ lots.length) (h4 : lots.length ≤ 4) (hl : ∀ l ∈ lots, Lot l) (M : End lots) (MM : ∀ few : Nat, 1 ≤ few → few ≤ lots.length → Mid lots few) (MF : Fst lots) (F : Fm s₀ (envL w s₀) m cm s) {lv : Value} (hlc : cm "lots" = some lv) (hlv : IsL (IsL IsI) lots lv s.heap) :
    wpAny (model prog w) A (execs (lawB w.params 3) (envL w s₀)) (fun f s' => IsB true (rv f) s'.heap ∧ Go s₀ s') (fun _ _ => False) s := by
  have G := G0.up F.ext
  refine wpAny_execs_cons (Assign_Tuple ?_ rfl rfl)
  refine wpAny_Tuple_spliced (args_cons ((?e1 : Tr prog w A s.heap _ (IsL IsI (foundUpTo lots (2 ^ lots.length)))).go (.refl _) fun v1 s1 hv1 g1 => args_cons ((?e2 : Tr prog w A s1.heap _ (IsI lots.length)).go (.refl _) fun v2 s2 hv2 g2 => args_cons (wpAny_mono ((?e3 : TrN prog w A s2.heap _ (IsD prog w [])) s2 _ (.refl _)) (fun v3 s3 hv3 => args_nil ?_) fun _ _ e => e))))
  case e1 => exact TrN.tr (evN_callF (Φ := IsL (IsL IsI) lots) G.gl.tab (G.gl.fn (x := "_law_common") rfl rfl rfl rfl) (G.gl.K 54 _ rfl) rfl ((F.rdc (x := "lots") rfl rfl hlc).trP fun h' e => mono_LL _ _ _ _ e hlv) fun v h' e hv => common_spec (G.gl.up e) (by omega) (by omega) hh h4 (fun l hl' => (hl l hl').1) hv)
  case e2 => exact ev_callB (Φ := IsL (IsL IsI) lots) ((G.up g1.ext).gl.bui rfl boot_len (by decide) rfl rfl rfl rfl) (((F.rdc (x := "lots") rfl rfl hlc).up g1.ext).trP fun h' e => mono_LL _ _ _ _ (g1.ext.trans e) hlv) fun v h' _ hv => tr_len hv (by omega)
  case e3 => exact ev_dict0 ((G.up g1.ext).up g2.ext).gl
  obtain ⟨⟨⟨d, rfl, hdk, hds⟩, D', eD, hDn⟩, g3⟩ := hv3
  cases eD
  obtain ⟨t2, rfl⟩ := hv2
  refine ⟨by simp [sizeLine], ?_⟩
  have F2 := F.go (g1.trans g2)
  have hdL : d ≠ s₀.heap.objs.size := fun e => by obtain ⟨o, _, _, g, _⟩ := F2.ns; rw [e] at hDn; rw [show (envL w s₀).locals = s₀.heap.objs.size from rfl, hDn] at g; cases g
  have g4 : Go s3 { s3 with heap := s3.heap.push { cls := .type "tuple", data := .seq [v1, Value.int lots.length t2, .ref d].toArray } } := .mk' (.push _ _)
  refine wpAny_assign_Tuple (items := #[v1, .int lots.length t2, .ref d]) hh ⟨_, Heap.get?_push_size _ rfl, rfl, 0, rfl⟩ rfl rfl fun h5 x5 => ?_
  have g5 : Go s3 { s3 with heap := h5 } := ⟨h5, s3.toks, rfl, g4.ext.trans (ext_of_but x5)⟩
  have F5 := (F2.go g3).go g5
  have hcv5 := mono_LI _ _ _ _ (((g2.trans g3).trans g5).ext) hv1
  have hlv5 := mono_LL _ _ _ _ ((((g1.trans g2).trans g3).trans g5).ext) hlv
  have hdk5 := hdk.up g5.ext
  refine inOrder3 (wpAny_assign_Name (F5.storeC (c := s₀.heap.objs.size + 1 + 1) rfl rfl fun s6 F6 k6 => wpAny_assign_Name (F6.store rfl fun s7 F7 k7 => wpAny_assign_Name (F7.store rfl fun s8 F8 k8 => ?_))))
  have d6 := F5.keepC (n := "common") rfl k6
  have d7 := F6.keepL k7
  have d8 := F7.keepL k8
  have hdk8 : IsKV prog w [] d s8.heap := hdk5.at (fun o g => by
    obtain ⟨o', _, _, g', hdd, _⟩ := hdk5.obj
    refine k8 d o hdL (k7 d o hdL (k6 d o ?_ g))
    rintro rfl
    obtain ⟨o2, e2, d2⟩ := F5.cell "common" _ rfl
    rw [g'] at e2; cases e2; rw [hdd] at d2; cases d2) ((d6.trans d7).trans d8)
  exact tail4 G0 hh hd hu h1 h4 hl M MM MF F8 ⟨⟨t2, rfl⟩, ⟨lv, hlc, ((d6.trans d7).trans d8).lots hlv5⟩, ⟨v1, rfl, ((d6.trans d7).trans d8).ints hcv5⟩, d, rfl, hdk8, hds, hdL⟩

abbrev IsN (a : Nat) (v : Value) (h : Heap) : Prop := IsI (a : Int) v h
theorem mono_N : Mono IsN := fun _ _ _ _ _ x => x
theorem loc_N : Loc IsN := fun _ _ _ _ x _ => x
theorem vals_mod (a : Nat) : ∀ k, k ≤ 10 → vals (bits10 a) 0 k = ((a % 2 ^ k : Nat) : Int)
  | 0, _ => by rw [vals]; simp [Nat.mod_one]
  | k + 1, h => by
    rw [vals, vals_mod a k (by omega), Nat.zero_add, bits10_get a (by omega), Nat.mod_pow_succ]
    show _ + ((a / 2 ^ k % 2 : Nat) : Int) * 2 ^ k = _
    rw [Int.natCast_add, Int.natCast_mul, Int.natCast_pow, Int.mul_comm]; rfl
theorem vals_bits (a : Nat) (ha : a < 1024) : vals (bits10 a) 0 10 = (a : Int) := by
  rw [vals_mod a 10 (by decide), Nat.mod_eq_of_lt ha]
theorem bits_lot (a : Nat) : Lot (bits10 a) := by
  refine ⟨rfl, fun x hx => ?_⟩
  have hb : ∀ k, bitN a k = 0 ∨ bitN a k = 1 := fun k => by unfold bitN; omega
  simp only [bits10, List.mem_cons, List.not_mem_nil, or_false] at hx
  rcases hx with rfl | rfl | rfl | rfl | rfl | rfl | rfl | rfl | rfl | rfl <;> exact hb _

theorem tail2 (G0 : Gm w s₀.heap) (hh : A.handled = none) (hd : A.depth + 50 < recursionLimit) (hu : A.units + 200 < cLine) {nums : List Nat} (nlt : ∀ a ∈ nums, a < 1024) (hlots : lots = nums.map bits10) (h1 : 1 ≤ lots.length) (h4 : lots.length ≤ 4) (M : End lots) (MM : ∀ few : Nat, 1 ≤ few → few ≤ lots.length → Mid lots few) (MF : Fst lots) (F : Fm s₀ (envL w s₀) m cm s) {lv nv : Value} (hlc : cm "lots" = some lv) (hlv : IsL (IsL IsI) lots lv s.heap) (hnc : m "numbers" = some nv) (hnv : IsL IsN nums nv s.heap) :
    wpAny (model prog w) A (execs (lawB w.params 2) (envL w s₀)) (fun f s' => IsB true (rv f) s'.heap ∧ Go s₀ s') (fun _ _ => False) s := by
  have G := G0.up F.ext
  have hu64 : A.units + 64 < cLine := by omega
  have hl : ∀ l ∈ lots, Lot l := fun l h => by rw [hlots] at h; obtain ⟨a, _, rfl⟩ := List.mem_map.mp h; exact bits_lot a
  refine wpAny_execs_cons (st_if (b := false) (tt_cast (tt_cmp (Φ := IsL IsI []) (Ψ := IsL IsI []) ?zip (fun _ _ => ev_nil) (fun u v h' h'' e1 e2 hu' hv' => tr_neL hu64 (mono_LI _ _ _ _ e2 hu') hv') rfl) (by simp)) fun s1 g1 => ?_)
  case zip =>
    refine ev_zipNone (R1 := IsN) (R2 := IsL IsI) mono_N mono_LI (xs := nums) (ys := lots) (cl := []) ?c1 ?c2 ?c3 ?c4 ?c5 ?c6 (by decide) hh G.gl.tab (by rw [hlots, List.length_map]) hnv hlv (G.gl.bui rfl boot_zip (by decide) rfl rfl rfl rfl) (F.loc rfl hnc) (F.rdc rfl rfl hlc) ?c7
    case c1 => rfl
    case c2 => decide
    case c3 => rfl
    case c4 => decide
    case c5 => rfl
    case c6 => rfl
    intro i p q v u C H mC hp hq eH hv hu' hC hCx hCy
    have hq' : q = bits10 p := by rw [hlots, List.getElem?_map, hp] at hq; exact (Option.some.inj hq).symm
    have hp' : p < 1024 := nlt p (List.mem_of_getElem? hp)
    obtain ⟨tv, rfl⟩ := hv
    have hL := bits_lot p
    subst hq'
    refine tests_one (tt_cast (tt_ne (ev_callF2 (Φ := IsL IsI (bits10 p)) (Φ2 := IsI 1) (Ψ := IsI (vals (bits10 p) 0 10)) ((G.up eH).gl.fn (x := "_digits2int") rfl rfl rfl rfl) ((G.up eH).gl.K 42 _ rfl) rfl (Rd.trP (.loc mC rfl rfl hC hCy) fun h' e => mono_LI _ _ _ _ e hu') (fun _ _ => ev_int) fun v u h1 h2 e1 e2 hv ⟨tu, hu2⟩ => ?_) (Rd.trI (.loc mC rfl rfl hC hCx))) ?_)
    · subst hu2
      exact digits2int_spec (((G.up eH).up e1).up e2) (by omega) hh (fun d hd => by rcases hL.2 d hd with rfl | rfl <;> decide) hL.1 (mono_LI _ _ _ _ e2 hv)
    · rw [vals_bits p hp']; simp
  simp only [Bool.false_eq_true, if_false]
  exact wpAny_execs_nil (tail3 G0 hh hd hu h1 h4 hl M MM MF (F.go g1) hlc (mono_LL _ _ _ _ g1.ext hlv))
end


theorem comm_of {lots : List (List Int)} {k : Nat} {v : Int} (h : (foundUpTo lots (2 ^ lots.length))[k]? = some v) : comm lots (k : Int) = v := by
  unfold comm; rw [Int.toNat_natCast, h]; rfl
theorem sum_one (l : List Int) : (l.map fun _ => (1 : Int)).sum = l.length := by
  induction l with
  | nil => rfl
  | cons x r ih => rw [List.map_cons, List.sum_cons, ih, List.length_cons]; omega
theorem sum_id (l : List Int) : (l.map fun o => o).sum = l.sum := by simp

theorem lot_sum {l : List Int} (h : Lot l) : l.sum = S (bitAt l) := by
  obtain ⟨h, _⟩ := h
  match l, h with
  | [a0, a1, a2, a3, a4, a5, a6, a7, a8, a9], _ =>
    show List.sum [a0, a1, a2, a3, a4, a5, a6, a7, a8, a9] = a0 + a1 + a2 + a3 + a4 + a5 + a6 + a7 + a8 + a9
    simp only [List.sum_cons, List.sum_nil]
    omega
theorem lots_sum {lots : List (List Int)} (hl : ∀ l ∈ lots, Lot l) : (lots.map List.sum).sum = S fun t => (cs lots t : Int) := by
  induction lots with
  | nil => exact S_zero.symm
  | cons l r ih =>
    rw [List.map_cons, List.sum_cons, ih fun l' h' => hl l' (List.mem_cons_of_mem _ h'), lot_sum (hl l (List.mem_cons_self ..)), ← S_add]
    refine S_congr fun t _ => ?_
    rw [cs]
    rcases (hl l (List.mem_cons_self ..)).bit t with e | e <;> rw [e] <;> simp <;> omega

theorem upF0 : upFrom 0 2 = [0, 1] ∧ upFrom 0 3 = [0, 1, 2] ∧ upFrom 0 4 = [0, 1, 2, 3] ∧ upFrom 0 5 = [0, 1, 2, 3, 4] := by decide
theorem upF1 : upFrom 1 1 = [1] ∧ upFrom 1 2 = [1, 2] ∧ upFrom 1 3 = [1, 2, 3] ∧ upFrom 1 4 = [1, 2, 3, 4] := by decide
theorem upF2 : upFrom 2 1 = [2] ∧ upFrom 2 2 = [2, 3] ∧ upFrom 2 3 = [2, 3, 4] := by decide
theorem upF3 : upFrom 3 1 = [3] ∧ upFrom 3 2 = [3, 4] ∧ upFrom 4 1 = [4] := by decide

section
variable {lots : List (List Int)}
theorem facts (hl : ∀ l ∈ lots, Lot l) (h1 : 1 ≤ lots.length) (h4 : lots.length ≤ 4) : ∃ n0 n1 n2 n3 n4 : Int, Nums lots n0 n1 n2 n3 n4 ∧ comm lots 0 = 10 ∧ comm lots 1 = n1 + 2 * n2 + 3 * n3 + 4 * n4 ∧ (2 ≤ lots.length → comm lots 2 = n2 + 3 * n3 + 6 * n4) ∧ (3 ≤ lots.length → comm lots 3 = n3 + 4 * n4) ∧ (4 ≤ lots.length → comm lots 4 = n4) ∧ ((callsOf lots).length : Int) = n1 + n2 + n3 + n4 := by
  have N := nums hl h4
  refine ⟨_, _, _, _, _, N, comm_of (k := 0) N.c0, comm_of (k := 1) (N.c1 h1), fun h => comm_of (k := 2) (N.c2 h), fun h => comm_of (k := 3) (N.c3 h), fun h => comm_of (k := 4) (N.c4 h), ?_⟩
  have := N.sum fun _ => 1
  rw [sum_one, List.length_map] at this
  omega

theorem mk_Fst (hl : ∀ l ∈ lots, Lot l) (h1 : 1 ≤ lots.length) (h4 : lots.length ≤ 4) : Fst lots := by
  obtain ⟨n0, n1, n2, n3, n4, N, k0, k1, _⟩ := facts hl h1 h4
  have hs : ((callsOf lots).map (·.2)).sum = n1 + 2 * n2 + 3 * n3 + 4 * n4 := by
    have := N.sum fun o => o
    rw [sum_id] at this
    omega
  refine ⟨?_, k0, by rw [hs, k1]⟩
  rw [hs, ← k1, lots_sum hl]
  show comm lots ((1 : Nat) : Int) = _
  rw [comm_of (k := 1) (common_at hl h4 h1)]
  refine S_congr fun t _ => ?_
  have : cs lots t ≤ 4 := Nat.le_trans (cs_le lots t) h4
  have hC : ∀ n : Fin 5, (C n.val 1 : Int) = n.val := by decide
  exact hC ⟨cs lots t, by omega⟩

theorem mk_turn (hl : ∀ l ∈ lots, Lot l) (h1 : 1 ≤ lots.length) (h4 : lots.length ≤ 4) : ((upFrom 0 (lots.length + 1)).map fun k => comm lots k * (1 - 2 * (k.fmod 2))).sum = 10 - (callsOf lots).length := by
  obtain ⟨n0, n1, n2, n3, n4, N, k0, k1, k2, k3, k4, hw⟩ := facts hl h1 h4
  have z := N.z
  have f0 : (0 : Int).fmod 2 = 0 := rfl
  have f1 : (1 : Int).fmod 2 = 1 := rfl
  have f2 : (2 : Int).fmod 2 = 0 := rfl
  have f3 : (3 : Int).fmod 2 = 1 := rfl
  have f4 : (4 : Int).fmod 2 = 0 := rfl
  have : lots.length = 1 ∨ lots.length = 2 ∨ lots.length = 3 ∨ lots.length = 4 := by omega
  rcases this with h | h | h | h
  · rw [h, upF0.1]
    simp only [List.map_cons, List.map_nil, List.sum_cons, List.sum_nil, f0, f1]
    omega
  · rw [h, upF0.2.1]
    simp only [List.map_cons, List.map_nil, List.sum_cons, List.sum_nil, f0, f1, f2]
    omega
  · rw [h, upF0.2.2.1]
    simp only [List.map_cons, List.map_nil, List.sum_cons, List.sum_nil, f0, f1, f2, f3]
    omega
  · rw [h, upF0.2.2.2]
    simp only [List.map_cons, List.map_nil, List.sum_cons, List.sum_nil, f0, f1, f2, f3, f4]
    omega

theorem less_last (h1 : 1 ≤ lots.length) : lots = lessOf lots ++ [lastOf lots] := by
  unfold lessOf lastOf
  rw [List.getElem?_eq_getElem (show lots.length - 1 < lots.length by omega)]
  have := List.take_append_drop (lots.length - 1) lots
  rw [List.drop_eq_getElem_cons (show lots.length - 1 < lots.length by omega), show lots.length - 1 + 1 = lots.length from by omega, List.drop_length] at this
  exact this.symm
theorem min_bit {last l : List Int} {t : Nat} (ht : t < 10) : bitAt (minLot last l) t = if bitAt last t < bitAt l t then bitAt last t else bitAt l t := by
  unfold minLot
  show ((((upFrom 0 10).map _)[t]?).getD 0) = _
  have : (upFrom 0 10)[t]? = some (t : Int) := by
    unfold upFrom
    rw [List.getElem?_map, List.getElem?_range ht]
    simp
  rw [List.getElem?_map, this]
  show (if (last[((t : Int)).toNat]?).getD 0 < (l[((t : Int)).toNat]?).getD 0 then _ else _) = _
  rw [Int.toNat_natCast]; rfl
theorem min_lot {last l : List Int} (h1 : Lot last) (h2 : Lot l) : Lot (minLot last l) := by
  refine ⟨by simp [minLot, upFrom], fun x hx => ?_⟩
  obtain ⟨k, _, rfl⟩ := List.mem_map.mp hx
  have a := h1.bit k.toNat
  have b := h2.bit k.toNat
  unfold bitAt at a b
  show (if _ then _ else _ : Int) = 0 ∨ (if _ then _ else _ : Int) = 1
  split <;> assumption
theorem cs_min {last : List Int} (hlast : Lot last) (ls : List (List Int)) (hl : ∀ l ∈ ls, Lot l) {t : Nat} (ht : t < 10) : cs (ls.map (minLot last)) t = if bitAt last t = 1 then cs ls t else 0 := by
  induction ls with
  | nil => simp [cs]
  | cons l r ih =>
    rw [List.map_cons, cs, ih (fun l' h' => hl l' (List.mem_cons_of_mem _ h')), cs, min_bit ht]
    rcases hlast.bit t with e | e <;> rcases (hl l (List.mem_cons_self ..)).bit t with e2 | e2 <;> rw [e, e2] <;> simp

theorem mk_split (hl : ∀ l ∈ lots, Lot l) (h1 : 1 ≤ lots.length) (h4 : lots.length ≤ 4) : ∀ k ∈ upFrom 2 ((lots.length : Int) - 2).toNat, comm lots k = comm (lessOf lots) k + comm (withOf lots) (k - 1) := by
  intro k hk
  obtain ⟨j, hj⟩ := List.mem_iff_getElem?.mp hk
  obtain ⟨hjl, rfl⟩ := upFrom_get hj
  have hll := less_last h1
  have hlen : (lessOf lots).length = lots.length - 1 := by unfold lessOf; rw [List.length_take]; omega
  have hwl : (withOf lots).length = lots.length - 1 := by unfold withOf; rw [List.length_map, hlen]
  have hlast : Lot (lastOf lots) := hl _ ((congrArg (fun z => lastOf lots ∈ z) hll).mpr (by simp))
  have hless : ∀ l ∈ lessOf lots, Lot l := fun l h => hl l (List.mem_of_mem_take h)
  have hwith : ∀ l ∈ withOf lots, Lot l := fun l h => by obtain ⟨l0, h0, rfl⟩ := List.mem_map.mp h; exact min_lot hlast (hless _ h0)
  have e1 : (2 : Int) + (j : Int) = ((j + 2 : Nat) : Int) := by omega
  have e2 : (2 : Int) + (j : Int) - 1 = ((j + 1 : Nat) : Int) := by omega
  rw [e2, e1, comm_of (common_at hl h4 (k := j + 2) (by omega)), comm_of (common_at hless (by omega) (k := j + 2) (by omega)), comm_of (common_at hwith (by omega) (k := j + 1) (by omega)), ← S_add]
  refine S_congr fun t ht => ?_
  have c1 : cs lots t = cs (lessOf lots) t + (if bitAt (lastOf lots) t = 1 then 1 else 0) := by
    conv => lhs; rw [hll]
    rw [cs_append]; simp [cs]
  have c2 := cs_min hlast (lessOf lots) hless ht
  rw [c1, show cs (withOf lots) t = _ from c2]
  by_cases hb : bitAt (lastOf lots) t = 1
  · simp only [hb, if_true]
    show ((C (cs (lessOf lots) t) (j + 1) + C (cs (lessOf lots) t) (j + 2) : Nat) : Int) = _
    omega
  · simp only [hb, if_false]
    show ((C (cs (lessOf lots) t) (j + 2) : Nat) : Int) = _ + ((C 0 (j + 1) : Nat) : Int)
    simp [C]
theorem mk_End (hl : ∀ l ∈ lots, Lot l) (h1 : 1 ≤ lots.length) (h4 : lots.length ≤ 4) : End lots := ⟨mk_turn hl h1 h4, common_rev hl h4, mk_split hl h1 h4⟩

theorem told1 : told lots 1 = comm lots 1 := by
  unfold told
  show ((upFrom 1 1).map _).sum = _
  rw [upF1.1]
  simp only [List.map_cons, List.map_nil, List.sum_cons, List.sum_nil, show (1 : Int).fmod 2 = 1 from rfl]
  omega
theorem told2 : told lots 2 = comm lots 1 - comm lots 2 := by
  unfold told
  rw [upF1.2.1]
  simp only [List.map_cons, List.map_nil, List.sum_cons, List.sum_nil, show (1 : Int).fmod 2 = 1 from rfl, show (2 : Int).fmod 2 = 0 from rfl]
  omega
theorem told3 : told lots 3 = comm lots 1 - comm lots 2 + comm lots 3 := by
  unfold told
  rw [upF1.2.2.1]
  simp only [List.map_cons, List.map_nil, List.sum_cons, List.sum_nil, show (1 : Int).fmod 2 = 1 from rfl, show (2 : Int).fmod 2 = 0 from rfl, show (3 : Int).fmod 2 = 1 from rfl]
  omega
theorem told4 : told lots 4 = comm lots 1 - comm lots 2 + comm lots 3 - comm lots 4 := by
  unfold told
  rw [upF1.2.2.2]
  simp only [List.map_cons, List.map_nil, List.sum_cons, List.sum_nil, show (1 : Int).fmod 2 = 1 from rfl, show (2 : Int).fmod 2 = 0 from rfl, show (3 : Int).fmod 2 = 1 from rfl, show (4 : Int).fmod 2 = 0 from rfl]
  omega

theorem c1_odd {few : Nat} {t W : Int} (h : (few : Int).fmod 2 = 1) (hw : W ≤ t) : ((((few : Int).fmod 2 == 1) && (decide (t < W) && true)) || ((((few : Int).fmod 2 == 0) && (decide (W < t) && true)) || false)) = false := by
  rw [h, decide_eq_false (show ¬ t < W by omega)]; rfl
theorem c1_even {few : Nat} {t W : Int} (h : (few : Int).fmod 2 = 0) (hw : t ≤ W) : ((((few : Int).fmod 2 == 1) && (decide (t < W) && true)) || ((((few : Int).fmod 2 == 0) && (decide (W < t) && true)) || false)) = false := by
  rw [h, decide_eq_false (show ¬ W < t by omega)]; rfl
theorem c2_lt {few m : Nat} {t W c : Int} (h : few < m) (ha : ¬ c < absI (t - W)) : ((decide ((few : Int) < m) && (decide (c < absI (t - W)) && true)) || ((((few : Int) == m) && ((t != W) && true)) || false)) = false := by
  rw [decide_eq_false ha, show ((few : Int) == (m : Int)) = false from by simp; omega]
  simp
theorem c2_eq {few m : Nat} {t W c : Int} (h : few = m) (ha : t = W) : ((decide ((few : Int) < m) && (decide (c < absI (t - W)) && true)) || ((((few : Int) == m) && ((t != W) && true)) || false)) = false := by
  subst h; subst ha
  simp
theorem abs_le {a c : Int} (h1 : a ≤ c) (h2 : -a ≤ c) : ¬ c < absI a := by unfold absI; split <;> omega

theorem C1 : C 1 1 = 1 ∧ C 2 1 = 2 ∧ C 3 1 = 3 ∧ C 4 1 = 4 := by decide
theorem C2 : C 1 2 = 0 ∧ C 2 2 = 1 ∧ C 3 2 = 3 ∧ C 4 2 = 6 := by decide
theorem C3 : C 1 3 = 0 ∧ C 2 3 = 0 ∧ C 3 3 = 1 ∧ C 4 3 = 4 := by decide
theorem C4 : C 1 4 = 0 ∧ C 2 4 = 0 ∧ C 3 4 = 0 ∧ C 4 4 = 1 := by decide

theorem just_1_1 (h : lots.length = 1) : just lots 1 = (1) * comm lots 1 := by
  unfold just
  rw [h, show upFrom ((1 : Nat) : Int) (1 + 1 - 1) = [1] from by decide]
  simp only [List.map_cons, List.map_nil, List.sum_cons, List.sum_nil, show (1 : Int).toNat = 1 from rfl, show C 1 1 = 1 from by decide, show ((1 : Int) - ((1 : Nat) : Int)).fmod 2 = 0 from rfl]
  omega
theorem just_2_1 (h : lots.length = 2) : just lots 1 = (1) * comm lots 1 + (-2) * comm lots 2 := by
  unfold just
  rw [h, show upFrom ((1 : Nat) : Int) (2 + 1 - 1) = [1, 2] from by decide]
  simp only [List.map_cons, List.map_nil, List.sum_cons, List.sum_nil, show (1 : Int).toNat = 1 from rfl, show C 1 1 = 1 from by decide, show ((1 : Int) - ((1 : Nat) : Int)).fmod 2 = 0 from rfl, show (2 : Int).toNat = 2 from rfl, show C 2 1 = 2 from by decide, show ((2 : Int) - ((1 : Nat) : Int)).fmod 2 = 1 from rfl]
  omega
theorem just_2_2 (h : lots.length = 2) : just lots 2 = (1) * comm lots 2 := by
  unfold just
  rw [h, show upFrom ((2 : Nat) : Int) (2 + 1 - 2) = [2] from by decide]
  simp only [List.map_cons, List.map_nil, List.sum_cons, List.sum_nil, show (2 : Int).toNat = 2 from rfl, show C 2 2 = 1 from by decide, show ((2 : Int) - ((2 : Nat) : Int)).fmod 2 = 0 from rfl]
  omega
theorem just_3_1 (h : lots.length = 3) : just lots 1 = (1) * comm lots 1 + (-2) * comm lots 2 + (3) * comm lots 3 := by
  unfold just
  rw [h, show upFrom ((1 : Nat) : Int) (3 + 1 - 1) = [1, 2, 3] from by decide]
  simp only [List.map_cons, List.map_nil, List.sum_cons, List.sum_nil, show (1 : Int).toNat = 1 from rfl, show C 1 1 = 1 from by decide, show ((1 : Int) - ((1 : Nat) : Int)).fmod 2 = 0 from rfl, show (2 : Int).toNat = 2 from rfl, show C 2 1 = 2 from by decide, show ((2 : Int) - ((1 : Nat) : Int)).fmod 2 = 1 from rfl, show (3 : Int).toNat = 3 from rfl, show C 3 1 = 3 from by decide, show ((3 : Int) - ((1 : Nat) : Int)).fmod 2 = 0 from rfl]
  omega
theorem just_3_2 (h : lots.length = 3) : just lots 2 = (1) * comm lots 2 + (-3) * comm lots 3 := by
  unfold just
  rw [h, show upFrom ((2 : Nat) : Int) (3 + 1 - 2) = [2, 3] from by decide]
  simp only [List.map_cons, List.map_nil, List.sum_cons, List.sum_nil, show (2 : Int).toNat = 2 from rfl, show C 2 2 = 1 from by decide, show ((2 : Int) - ((2 : Nat) : Int)).fmod 2 = 0 from rfl, show (3 : Int).toNat = 3 from rfl, show C 3 2 = 3 from by decide, show ((3 : Int) - ((2 : Nat) : Int)).fmod 2 = 1 from rfl]
  omega
theorem just_3_3 (h : lots.length = 3) : just lots 3 = (1) * comm lots 3 := by
  unfold just
  rw [h, show upFrom ((3 : Nat) : Int) (3 + 1 - 3) = [3] from by decide]
  simp only [List.map_cons, List.map_nil, List.sum_cons, List.sum_nil, show (3 : Int).toNat = 3 from rfl, show C 3 3 = 1 from by decide, show ((3 : Int) - ((3 : Nat) : Int)).fmod 2 = 0 from rfl]
  omega
theorem just_4_1 (h : lots.length = 4) : just lots 1 = (1) * comm lots 1 + (-2) * comm lots 2 + (3) * comm lots 3 + (-4) * comm lots 4 := by
  unfold just
  rw [h, show upFrom ((1 : Nat) : Int) (4 + 1 - 1) = [1, 2, 3, 4] from by decide]
  simp only [List.map_cons, List.map_nil, List.sum_cons, List.sum_nil, show (1 : Int).toNat = 1 from rfl, show C 1 1 = 1 from by decide, show ((1 : Int) - ((1 : Nat) : Int)).fmod 2 = 0 from rfl, show (2 : Int).toNat = 2 from rfl, show C 2 1 = 2 from by decide, show ((2 : Int) - ((1 : Nat) : Int)).fmod 2 = 1 from rfl, show (3 : Int).toNat = 3 from rfl, show C 3 1 = 3 from by decide, show ((3 : Int) - ((1 : Nat) : Int)).fmod 2 = 0 from rfl, show (4 : Int).toNat = 4 from rfl, show C 4 1 = 4 from by decide, show ((4 : Int) - ((1 : Nat) : Int)).fmod 2 = 1 from rfl]
  omega
theorem just_4_2 (h : lots.length = 4) : just lots 2 = (1) * comm lots 2 + (-3) * comm lots 3 + (6) * comm lots 4 := by
  unfold just
  rw [h, show upFrom ((2 : Nat) : Int) (4 + 1 - 2) = [2, 3, 4] from by decide]
  simp only [List.map_cons, List.map_nil, List.sum_cons, List.sum_nil, show (2 : Int).toNat = 2 from rfl, show C 2 2 = 1 from by decide, show ((2 : Int) - ((2 : Nat) : Int)).fmod 2 = 0 from rfl, show (3 : Int).toNat = 3 from rfl, show C 3 2 = 3 from by decide, show ((3 : Int) - ((2 : Nat) : Int)).fmod 2 = 1 from rfl, show (4 : Int).toNat = 4 from rfl, show C 4 2 = 6 from by decide, show ((4 : Int) - ((2 : Nat) : Int)).fmod 2 = 0 from rfl]
  omega
theorem just_4_3 (h : lots.length = 4) : just lots 3 = (1) * comm lots 3 + (-4) * comm lots 4 := by
  unfold just
  rw [h, show upFrom ((3 : Nat) : Int) (4 + 1 - 3) = [3, 4] from by decide]
  simp only [List.map_cons, List.map_nil, List.sum_cons, List.sum_nil, show (3 : Int).toNat = 3 from rfl, show C 3 3 = 1 from by decide, show ((3 : Int) - ((3 : Nat) : Int)).fmod 2 = 0 from rfl, show (4 : Int).toNat = 4 from rfl, show C 4 3 = 4 from by decide, show ((4 : Int) - ((3 : Nat) : Int)).fmod 2 = 1 from rfl]
  omega
theorem just_4_4 (h : lots.length = 4) : just lots 4 = (1) * comm lots 4 := by
  unfold just
  rw [h, show upFrom ((4 : Nat) : Int) (4 + 1 - 4) = [4] from by decide]
  simp only [List.map_cons, List.map_nil, List.sum_cons, List.sum_nil, show (4 : Int).toNat = 4 from rfl, show C 4 4 = 1 from by decide, show ((4 : Int) - ((4 : Nat) : Int)).fmod 2 = 0 from rfl]
  omega
theorem mk_Mid (hl : ∀ l ∈ lots, Lot l) (h1 : 1 ≤ lots.length) (h4 : lots.length ≤ 4) : ∀ few : Nat, 1 ≤ few → few ≤ lots.length → Mid lots few := by
  obtain ⟨n0, n1, n2, n3, n4, N, k0, k1, k2, k3, k4, hw⟩ := facts hl h1 h4
  have z := N.z
  have p0 := N.h0
  have p1 := N.h1
  have p2 := N.h2
  have p3 := N.h3
  have p4 := N.h4
  have hc3 : ∀ few : Nat, (((callsOf lots).map (·.2)).map fun o => (C o.toNat few : Int)).sum = n1 * (C 1 few : Int) + n2 * (C 2 few : Int) + n3 * (C 3 few : Int) + n4 * (C 4 few : Int) := fun few => N.sum fun o => (C o.toNat few : Int)
  have hc4 : ∀ few : Nat, ((((callsOf lots).map (·.2)).filter fun (o : Int) => o == (few : Int)).length : Int) = n1 * (if ((1 : Int) == (few : Int)) = true then 1 else 0) + n2 * (if ((2 : Int) == (few : Int)) = true then 1 else 0) + n3 * (if ((3 : Int) == (few : Int)) = true then 1 else 0) + n4 * (if ((4 : Int) == (few : Int)) = true then 1 else 0) := fun few => by
    rw [filter_sum]
    exact N.sum fun o => if (o == (few : Int)) = true then 1 else 0
  intro few hf1 hf2
  have : few = 1 ∨ few = 2 ∨ few = 3 ∨ few = 4 := by omega
  rcases this with rfl | rfl | rfl | rfl
  · refine ⟨c1_odd rfl (by rw [told1]; omega), ?_, ?_, ?_⟩
    · by_cases h : 1 < lots.length
      · exact c2_lt h (abs_le (by rw [told1]; show _ ≤ comm lots 2; omega) (by rw [told1]; show _ ≤ comm lots 2; omega))
      · exact c2_eq (by omega) (by rw [told1]; omega)
    · rw [hc3, C1.1, C1.2.1, C1.2.2.1, C1.2.2.2]; show comm lots 1 = _; omega
    · rw [hc4]
      simp only [show ((1 : Int) == ((1 : Nat) : Int)) = true from rfl, show ((2 : Int) == ((1 : Nat) : Int)) = false from rfl, show ((3 : Int) == ((1 : Nat) : Int)) = false from rfl, show ((4 : Int) == ((1 : Nat) : Int)) = false from rfl, if_true, Bool.false_eq_true, if_false]
      have : lots.length = 1 ∨ lots.length = 2 ∨ lots.length = 3 ∨ lots.length = 4 := by omega
      rcases this with h | h | h | h
      · rw [just_1_1 h]; omega
      · rw [just_2_1 h]; omega
      · rw [just_3_1 h]; omega
      · rw [just_4_1 h]; omega
  · refine ⟨c1_even rfl (by rw [told2]; omega), ?_, ?_, ?_⟩
    · by_cases h : 2 < lots.length
      · exact c2_lt h (abs_le (by rw [told2]; show _ ≤ comm lots 3; omega) (by rw [told2]; show _ ≤ comm lots 3; omega))
      · exact c2_eq (by omega) (by rw [told2]; omega)
    · rw [hc3, C2.1, C2.2.1, C2.2.2.1, C2.2.2.2]; show comm lots 2 = _; omega
    · rw [hc4]
      simp only [show ((1 : Int) == ((2 : Nat) : Int)) = false from rfl, show ((2 : Int) == ((2 : Nat) : Int)) = true from rfl, show ((3 : Int) == ((2 : Nat) : Int)) = false from rfl, show ((4 : Int) == ((2 : Nat) : Int)) = false from rfl, if_true, Bool.false_eq_true, if_false]
      have : lots.length = 2 ∨ lots.length = 3 ∨ lots.length = 4 := by omega
      rcases this with h | h | h
      · rw [just_2_2 h]; omega
      · rw [just_3_2 h]; omega
      · rw [just_4_2 h]; omega
  · refine ⟨c1_odd rfl (by rw [told3]; omega), ?_, ?_, ?_⟩
    · by_cases h : 3 < lots.length
      · exact c2_lt h (abs_le (by rw [told3]; show _ ≤ comm lots 4; omega) (by rw [told3]; show _ ≤ comm lots 4; omega))
      · exact c2_eq (by omega) (by rw [told3]; omega)
    · rw [hc3, C3.1, C3.2.1, C3.2.2.1, C3.2.2.2]; show comm lots 3 = _; omega
    · rw [hc4]
      simp only [show ((1 : Int) == ((3 : Nat) : Int)) = false from rfl, show ((2 : Int) == ((3 : Nat) : Int)) = false from rfl, show ((3 : Int) == ((3 : Nat) : Int)) = true from rfl, show ((4 : Int) == ((3 : Nat) : Int)) = false from rfl, if_true, Bool.false_eq_true, if_false]
      have : lots.length = 3 ∨ lots.length = 4 := by omega
      rcases this with h | h
      · rw [just_3_3 h]; omega
      · rw [just_4_3 h]; omega
  · refine ⟨c1_even rfl (by rw [told4]; omega), ?_, ?_, ?_⟩
    · exact c2_eq (by omega) (by rw [told4]; omega)
    · rw [hc3, C4.1, C4.2.1, C4.2.2.1, C4.2.2.2]; show comm lots 4 = _; omega
    · rw [hc4]
      simp only [show ((1 : Int) == ((4 : Nat) : Int)) = false from rfl, show ((2 : Int) == ((4 : Nat) : Int)) = false from rfl, show ((3 : Int) == ((4 : Nat) : Int)) = false from rfl, show ((4 : Int) == ((4 : Nat) : Int)) = true from rfl, if_true, Bool.false_eq_true, if_false]
      rw [just_4_4 (by omega)]; omega
end


section
variable {prog : Program} {w : World} {A : Around} {α β : Type} {E : Value → Shared → Prop} {s₀ s : Shared} {env : Env} {m cm : Str → Option Value} {Q : Flow → Shared → Prop}

theorem st_compUsed {z : Str} {pz spos : Pos} {elt iter : PySem.Expr} {t : Str} {pt : Pos} {ifs : List PySem.Expr} {scope : Scope} {cl : List (Str × Addr)} {pos : Pos} (F : Fm s₀ env m cm s) (hz : env.kindOf z = some .local)
    (hsw : swapsWith (.ListComp elt [⟨.Name t pt, iter, ifs, 0⟩] scope pos) (some (.Name z pz)) spos.line env = pure true)
    {R : α → Value → Heap → Prop} {Sx : β → Value → Heap → Prop} {xs : List α} (p : α → Bool) (f : α → β)
    (hclos : closureFor scope env = pure cl) (hcell : ∀ y ∈ scope.names, y.2 ≠ .cell) (hkind : scope.kind = .function) (hnames : ∀ y ∈ scope.names, y.2 = .local → scope.names.lookup y.1 = some .local) (hx : scope.names.lookup t = some .local)
    (hsz : xs.length ≤ sizeLine) (hSm : Mono Sx) (hSl : Loc Sx) (hsrc : Tr prog w A s.heap (eval iter env) (IsSrc prog w A R xs))
    (hbody : ∀ a v C H, a ∈ xs → Ext s.heap H → R a v H → (∃ m, H.Ns C m ∧ m t = some v) →
      Tr prog w A H (testsOf ifs (compEnvC scope cl C env)) (Is (p a)) ∧
      (p a = true → ∀ (s' : Shared) E', Ext H s'.heap → wpAny (model prog w) A (eval elt (compEnvC scope cl C env)) (fun y s'' => (Sx (f a) y s''.heap ∧ ∀ l, y = .ref l → (∃ o, Solid o ∧ s.heap.get? l = some o) ∨ s'.heap.get? l = none) ∧ Go s' s'') E' s'))
    (ht0 : TabS s₀.heap) (k : ∀ s' D, Fm s₀ env (upd m z (.ref D)) cm s' → (∃ h', IsL Sx ((xs.filter p).map f) (.ref D) h' ∧ Hd h' s'.heap) → Q .next s')
    (hs : ∀ x, foldedSetIterable iter env x = pure x := by intro _; rfl) :
    wpAny (model prog w) A (exec (.Assign [.Name z pz] (.ListComp elt [⟨.Name t pt, iter, ifs, 0⟩] scope pos) spos) env) Q E s := by
  rw [exec_Assign_Name_used _ _ _ _ hsw]
  refine wpAny_bind (wpAny_standAt (wpAny_bind ?_))
  show wpAny _ A (do let _ ← comprehension (.ListComp elt [⟨.Name t pt, iter, ifs, 0⟩] scope pos) scope env _ (newList []) false (eval iter env) (some (assign (.Name z pz) env))) _ _ s
  refine wpAny_bind (wpAny_mono (wpAny_comprehension_free (use := some (assign (.Name z pz) env)) (Q := fun _ s' => Q .next s') rfl hs hclos hkind hnames (hsrc.go (.refl _) fun xv s₁ hxv g₁ => hxv s₁ _ _ (.refl _) fun I fp wr P St h' tk hk K hP h0 hwr hfp _ => ?_))
    (fun _ s' hq => wpAny_pure (wpAny_pure hq)) fun _ _ e => e)
  have F1 := F.go g₁
  refine block_local (RR := fun acc C => compPost (model prog w) A E (some (assign (.Name z pz) env)) (fun _ s' => Q .next s') acc C) (hb := s₁.heap) (R := R) (S := Sx) (p := p) (f := f) hcell hkind hx K hsz hk hP hSm hSl hwr hfp h0 ?_ ?_
  · intro a v C H ha e hr hm
    obtain ⟨b1, b2⟩ := hbody a v C H ha (g₁.ext.trans e) hr hm
    refine ⟨b1, fun hp s' E' e' => wpAny_mono (b2 hp s' E' e') (fun y s'' hy => ⟨⟨hy.1.1, fun l el => ?_⟩, hy.2⟩) fun _ _ x => x⟩
    rcases hy.1.2 l el with ⟨o, so, ho⟩ | hn
    · exact .inl ⟨o, so, g₁.ext.solid so ho⟩
    · exact .inr hn
  · intro D C h'' tk' ys hD hC hD2 hDC hm hd hall hnv e
    obtain ⟨mC, hm⟩ := hm
    have F2 : Fm s₀ env m cm { s₁ with heap := h'', toks := tk' } := F1.go (.mk' e)
    have hLC : env.locals ≠ C := fun q => by obtain ⟨o, _, _, g, _⟩ := F1.ns; rw [q, hC] at g; cases g
    refine wpAny_assign_Name (F2.store hz fun s3 F3 k3 => ⟨mC, hm.at' fun o g => k3 C o (Ne.symm hLC) g, fun h4 hs4 => ?_⟩)
    have ns3 : s3.heap.Ns C mC := hm.at' fun o g => k3 C o (Ne.symm hLC) g
    have hC0 : s₀.heap.get? C = none := fresh_back F1.ext ht0 hC
    have F4 := F3.step (V := [C]) (tk := s3.toks) (h' := h4) (fun b hb => by
      simp at hb; subst hb
      exact ⟨hC0, Ne.symm hLC, (fun n c hc q => by obtain ⟨o, g, _⟩ := F1.cell n c hc; rw [← q, hC] at g; cases g), noRec_ns ns3⟩) fun b o hb g => hs4.extBut b o (by simpa using hb) g
    refine k _ D F4 ⟨h'', ⟨D, ys.toList, rfl, hd, hall⟩, ?_⟩
    intro b o xs' n d g
    have g3 := F2.keepL k3 b o xs' n d g
    refine hs4.extBut b o (fun q => ?_) g3
    obtain ⟨o', _, _, g', d', _⟩ := ns3
    rw [← q, g3] at g'; cases g'
    rw [d] at d'; cases d'
end

/-! the numbers of the script -/
def firstN (ns : List Int) : List Int := (ns ++ [0]).take ((max 1 (min 4 ns.length)))
def numsOf (ns : List Int) : List Nat := (firstN ns).map fun x => ((if x < 0 then -x else x).fmod 1024).toNat
theorem first_len (ns : List Int) : (firstN ns).length = max 1 (min 4 ns.length) := by
  unfold firstN
  rw [List.length_take, List.length_append]
  simp only [List.length_cons, List.length_nil]
  omega
theorem numsOf_lt {ns : List Int} {a : Nat} (h : a ∈ numsOf ns) : a < 1024 := by
  obtain ⟨x, _, rfl⟩ := List.mem_map.mp h
  have h1 : 0 ≤ (if x < 0 then -x else x).fmod 1024 := Int.fmod_nonneg_of_pos _ (by decide)
  have h2 : (if x < 0 then -x else x).fmod 1024 < 1024 := Int.fmod_lt_of_pos _ (by decide)
  omega
def lotsOf (ns : List Int) : List (List Int) := (numsOf ns).map bits10
theorem lots_lot {ns : List Int} {l : List Int} (h : l ∈ lotsOf ns) : Lot l := by
  obtain ⟨a, _, rfl⟩ := List.mem_map.mp h
  exact bits_lot a
theorem lots_len (ns : List Int) : (lotsOf ns).length = max 1 (min 4 ns.length) := by
  unfold lotsOf numsOf
  rw [List.length_map, List.length_map, first_len]

theorem bind66 (P : Params) (a : Value) : bindArgs (fdOf P 66) ⟨[a], []⟩ = pure [(("script" : Str), a)] := rfl
section
variable {prog : Program} {w : World} {A1 : Around} {s₀ s : Shared}
theorem law_run (G0 : Gm w s₀.heap) (hd' : A1.depth + 50 < recursionLimit) (hu' : A1.units + 200 < cLine) (hh' : A1.handled = none) {ns : List Int} (hn : ns.length ≤ 63) {v : Value} (hv0 : IsL IsI ns v s₀.heap)
    (F : Fm s₀ (envL w s₀) (bindL (envL w s₀).kindOf [(("script" : Str), v)] fun _ => none) (bindC (envL w s₀).kindOf [(("script" : Str), v)] fun _ => none) s) :
    wpAny (model prog w) A1 (execs (lawB w.params 0) (envL w s₀)) (fun f s' => IsB true (rv f) s'.heap ∧ Go s₀ s') (fun _ _ => False) s := by
  have hlen := first_len ns
  refine wpAny_execs_cons (st_compUsed (α := Int) (β := Nat) (R := IsI) (Sx := IsN) (xs := firstN ns) F rfl ?sw (fun _ => true) (fun x => ((if x < 0 then -x else x).fmod 1024).toNat) (cl := []) ?c1 ?c2 ?c3 ?c4 ?c5 (by rw [hlen]; simp [sizeLine]; omega) mono_N loc_N ?src ?body G0.gl.tab (fun s2 D F2 hD2 => ?_) ?c7)
  case sw => rfl
  case c1 => rfl
  case c2 => decide
  case c3 => rfl
  case c4 => decide
  case c5 => rfl
  case c7 => exact fun _ => rfl
  case src =>
    refine (ev_upto (hs := ?hs) (xs := ns ++ [0]) mono_I (ev_addL mono_I ((F.loc (x := "script") rfl rfl).trP (Φ := IsL IsI ns) fun h' e => mono_LI _ _ _ _ (F.ext.trans e) hv0) (ev_list1 mono_I ev_int rfl) (by simp; omega))
      (ev_callB2 (Φ := IsI 1) (Φ2 := IsI (if (ns.length : Int) < 4 then ns.length else 4)) ((G0.up F.ext).gl.bui rfl boot_max (by decide) rfl rfl rfl rfl) ev_int (fun h' e => ev_callB2 (Φ := IsI 4) (Φ2 := IsI ns.length) (((G0.up F.ext).up e).gl.bui rfl boot_min (by decide) rfl rfl rfl rfl) ev_int
        (fun h'' e' => ev_callB ((((G0.up F.ext).up e).up e').gl.bui rfl boot_len (by decide) rfl rfl rfl rfl) ((((F.loc (x := "script") rfl rfl).up e).up e').trP (Φ := IsL IsI ns) fun h3 e3 => mono_LI _ _ _ _ (((F.ext.trans e).trans e').trans e3) hv0) fun v h' _ hv => tr_len hv (by omega))
        fun v u h1 h2 e1 e2 ⟨tv, hv⟩ ⟨tu, hu⟩ => by subst hv; subst hu; exact tr_min hh') fun v u h1 h2 e1 e2 ⟨tv, hv⟩ ⟨tu, hu⟩ => by subst hv; subst hu; exact tr_max hh') (by split <;> split <;> omega) (by simp; omega)).mono fun v h' _ hv => ?_
    case hs => intro _ _; with_unfolding_all rfl
    have e : (ns ++ [0]).take (if (if (ns.length : Int) < 4 then (ns.length : Int) else 4) > 1 then (if (ns.length : Int) < 4 then (ns.length : Int) else 4) else 1).toNat = firstN ns := by
      unfold firstN
      congr 1
      split <;> split <;> omega
    rw [e] at hv
    exact IsSrc.list mono_I hh' hv
  case body =>
    rintro x u C H hxm eH ⟨tx, rfl⟩ ⟨mC, hC, hCx⟩
    refine ⟨tests_nil, fun _ => Tr.eltI (ev_cast (ev_mod (ev_callB (Φ := IsI x) ((G0.up (F.ext.trans eH)).gl.bui rfl boot_abs (by decide) rfl rfl rfl rfl) (Rd.trI (.loc mC rfl rfl hC hCx)) fun v h' _ ⟨t, e⟩ => by subst e; exact tr_abs) ev_int (by decide)) ?_)⟩
    have : 0 ≤ (if x < 0 then -x else x).fmod 1024 := Int.fmod_nonneg_of_pos _ (by decide)
    omega
  have hfm : (firstN ns).filter (fun _ => true) = firstN ns := by simp
  have hnum : IsL IsN (numsOf ns) (.ref D) s2.heap := by
    obtain ⟨h', ⟨l, vs, e1, p1, q1⟩, hd⟩ := hD2
    rw [hfm] at q1
    exact ⟨l, vs, e1, hd.plain p1, All2.imp (h := h') (R := IsN) (fun _ _ y => y) q1⟩
  have hnlen : (numsOf ns).length = max 1 (min 4 ns.length) := by unfold numsOf; rw [List.length_map, hlen]
  have nlt : ∀ a ∈ numsOf ns, a < 1024 := fun a ha => numsOf_lt ha
  have G2 := G0.up F2.ext
  refine wpAny_execs_cons (st_assignC (c := s₀.heap.objs.size + 1) (Φ := IsL (IsL IsI) (lotsOf ns)) F2 (TrN.tr ?lots) rfl rfl fun lv s3 s4 hlv g3 F4 hd4 k4 => ?_)
  case lots =>
    refine ev_compM (R := IsN) (xs := numsOf ns) bits10 (cl := []) ?c1 ?c2 ?c3 ?c4 ?c5 ?c7 (by rw [hnlen]; simp [sizeLine]; omega) mono_LI loc_LI G2.gl.tab
      (((F2.loc (x := "numbers") rfl rfl).trP (Φ := IsL IsN (numsOf ns)) fun h' e => mono_L mono_N _ _ _ _ e hnum).mono fun v h' _ hv => IsSrc.list mono_N hh' hv) ?c6
    case c1 => rfl
    case c2 => decide
    case c3 => rfl
    case c4 => decide
    case c5 => rfl
    case c7 => exact fun _ => rfl
    case c6 =>
      rintro a u C H ha eH hu ⟨mC, hC, hCa⟩
      refine TrN.elt (evN_callF (Φ := IsN a) (G2.up eH).gl.tab ((G2.up eH).gl.fn (x := "_law_lot") rfl rfl rfl rfl) ((G2.up eH).gl.K 49 _ rfl) rfl ((Rd.loc mC rfl rfl hC hCa).trP fun h' e => hu) fun v h' e ⟨t, hv⟩ => ?_)
      subst hv
      exact lot_spec ((G2.up eH).up e) (by show A1.depth + 21 < recursionLimit; omega) hh' (nlt a ha)
  have hlots := lots_len ns
  have hl : ∀ l ∈ lotsOf ns, Lot l := fun l h => lots_lot h
  have hl1 : 1 ≤ (lotsOf ns).length := by omega
  have hl4 : (lotsOf ns).length ≤ 4 := by omega
  have hnum4 : IsL IsN (numsOf ns) (.ref D) s4.heap := by
    obtain ⟨l, vs, e1, p1, q1⟩ := mono_L mono_N _ _ _ _ g3.ext hnum
    exact ⟨l, vs, e1, hd4.plain p1, All2.imp (h := s3.heap) (R := IsN) (fun _ _ y => y) q1⟩
  exact tail2 G0 hh' (by omega) (by omega) nlt rfl hl1 hl4 (mk_End hl hl1 hl4) (mk_Mid hl hl1 hl4) (mk_Fst hl hl1 hl4) F4 rfl (hd4.lots hlv) rfl hnum4
end

theorem law_spec {prog : Program} {w : World} {A : Around} {h : Heap} (G : Gm w h) (hA : A.depth + 60 < recursionLimit) (hu : A.units + 300 < cLine) (hh : A.handled = none) {ns : List Int} (hn : ns.length ≤ 63) {v : Value} (hv : IsL IsI ns v h) : Tr prog w A h (call (.ref 66) [v]) (IsB true) := fun s E hx => by
  refine call_fn (P := fun s v s' => IsB true v s'.heap ∧ Go s s') (fd := fdOf w.params 66) (by omega) (G.gl.K 66 _ rfl) rfl G.gl.lim (fun h' e => codeRec_of (G.gl.up e).K rfl) rfl (bind66 _ _) rfl (fun n x hx => ?_) (fun s₀ s env hx0 henv F => ?_) rfl rfl rfl s E hx
  · simp at hx; subst hx; exact .inl rfl
  · subst henv
    exact law_run (G.up hx0) (by show A.depth + 1 + 50 < recursionLimit; omega) (by show A.units + 3 + 200 < cLine; omega) hh hn (mono_LI _ _ _ _ hx0 hv) F
example : callerA.units + 300 < cLine := by decide
example : callerA.depth + 60 < recursionLimit := by decide
theorem oldK_of {h h' : Heap} (e : Ext h h') (t : TabS h) (e30 : h.get? 30 = some (tabObj #[])) (e37 : h.get? 37 = some (tabObj #[])) : OldK h h' := by
  have t' := e.tab t
  have old : ∀ b o, h.get? b = some o → (h'.get? b = some o) ∨ ((b = 30 ∨ b = 37) ∧ o = tabObj #[] ∧ isCodeTable h b ∧ ∃ ps, h'.get? b = some (tabObj ps)) := fun b o g => by
    by_cases h30 : b = 30
    · subst h30
      rw [e30] at g; cases g
      obtain ⟨_, _, ps, hp, _⟩ := t'.1
      exact .inr ⟨.inl rfl, rfl, (t.1.1.tab e30).isCodeTable, ps, hp⟩
    · by_cases h37 : b = 37
      · subst h37
        rw [e37] at g; cases g
        obtain ⟨_, _, ps, hp, _⟩ := t'.2
        exact .inr ⟨.inr rfl, rfl, (t.2.1.tab e37).isCodeTable, ps, hp⟩
      · exact .inl (e.keep b o (fun q => (q.elim h30 h37).elim) g)
  refine ⟨fun b o g => ?_, fun b o g => ?_⟩
  · rcases old b o g with g' | ⟨_, rfl, ht, ps, hP⟩
    · exact .inl g'
    · exact .inr (.inl ⟨ht, rfl, #[], ps, rfl, by rw [Array.empty_append]; exact hP⟩)
  · rcases old b o g with g' | ⟨_, _, _, ps, hP⟩
    · exact ⟨o, g'⟩
    · exact ⟨_, hP⟩


theorem code_solid {h : Heap} {c P : Addr} (x : CodeHd h c P) : ∀ o, h.get? c = some o → Solid o := fun o e => by
  obtain ⟨o', vs, file, tf, flags, tg, inF, text, tt, g, hc, r⟩ := x
  rw [e] at g; cases g
  exact solid_cls (by rw [hc]; nofun)
theorem tabs_of {w : World} {h : Heap} (X : (hd.heap_39 w.params).In h) (e30 : h.get? 30 = some (tabObj #[])) (e37 : h.get? 37 = some (tabObj #[])) : TabS h :=
  have h1 : CodeHd h 34 30 := codeHd_of_K X rfl
  have h2 : CodeHd h 41 37 := codeHd_of_K X rfl
  ⟨⟨h1, code_solid h1, _, e30, .inl rfl⟩, ⟨h2, code_solid h2, _, e37, .inl rfl⟩⟩
theorem gm_of {p : Program} {loose : List Str} {mean : ExcName → Option Value} {w : World} {mg mb : Str → Option Value} {h : Heap} (X : (hd.heap_39 w.params).In h) (T : Top p loose mean mg mb h) (e30 : h.get? 30 = some (tabObj #[])) (e37 : h.get? 37 = some (tabObj #[])) : Gm w h := by
  refine ⟨⟨X, T.nolimit, ⟨mg, T.g⟩, ⟨mb, T.b, T.builtins⟩, tabs_of X e30 e37⟩, mg, T.g, ?_⟩
  obtain ⟨bm, ob, b1, b2, b3, b4, b5, b6⟩ := T.bmain
  refine ⟨bm, ob, b1, b2, fun q => ?_, b3, b4, b5, b6⟩
  obtain ⟨o, es, ep, e, hd, _⟩ := T.g
  rw [q, e] at b3; cases b3
  rw [hd] at b6; cases b6
theorem plain_of {P : Params} {h : Heap} {l : Addr} {vs : List Value} {ns : List Int} (w1 : Well P h (.ref l) (ofPy (.list (ns.map .int)))) (hL : h.IsList l vs.toArray) (hI : IntsAre vs ns) : IsL IsI ns (.ref l) h := by
  refine ⟨l, vs, rfl, ?_, .of_ints hI⟩
  obtain ⟨o, e, _, n, d⟩ := hL
  have : ∃ xs, ofPy (.list (ns.map .int)) = .list xs := ⟨_, rfl⟩
  obtain ⟨xs, hxs⟩ := this
  rw [hxs] at w1
  cases w1 with
  | list g _ =>
    rw [e] at g; cases g
    cases d
    exact ⟨_, e⟩
end Mine
set_option maxHeartbeats 8000000 in
theorem PySem.Challenge.cw_ie0011_01_holds : PySem.Challenge.rw_ie0011_01.Holds := by
  exact Mine.hd (by
    k_fill
    intro w s₀ s₁ mg mb G Y fa o pm cd doc dV kV ho hd hcd hD hmg hg args vals as hpre hlay hrd hwl hlo
    refine Ground.open G ?_
    intro T B D TE TW
    wrow_args hpre hlay hrd hwl hlo
    rename IntsAre _ _ => hI
    rename Heap.IsList _ _ _ => hL
    rename Well _ _ _ _ => w1
    rename ¬ (_ < _) => hc
    have X := km_in_of Y
    have e30 := km_tabs_of Y 30 (by decide)
    have e37 := km_tabs_of Y 37 (by decide)
    have GM := Mine.gm_of X T e30 e37
    have hfa : mg "law" = some (.ref 66) := mg_of X T.g rfl
    have hmg' : mg "law" = some (.ref fa) := hmg
    rw [hfa] at hmg'
    cases hmg'
    have hin := Mine.plain_of w1 hL hI
    refine wpAny_mono (Mine.law_spec GM (by decide) (by decide) rfl (by omega) hin _ _ (.refl _)) (fun v s' hv => ?_) fun _ _ e => e
    obtain ⟨hv, g⟩ := hv
    have hv : v = .bool true := hv
    subst hv
    obtain ⟨h', tk, rfl, e⟩ := g
    refine ⟨.inl ⟨_, _, [], rfl, fun _ => rfl, ReadsW.bool true, ?_, fun _ => ⟨List.nodup_nil, fun _ hm => (nomatch hm)⟩⟩, Mine.oldK_of e GM.gl.tab e30 e37, rfl, .of_eq hg⟩
    first | rfl | wrow_post)
