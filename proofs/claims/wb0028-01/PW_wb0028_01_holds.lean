import PyProof.Rows.All
import Wide.All
import Open.Line
import Wide.FinOn
import PySem.Challenge.RW_wb0028_01
set_option maxRecDepth 100000
set_option Elab.async false
set_option linter.all false
open PySem PyProof.Rows

namespace Mine

abbrev Tx := List Nat
def mkS (c : Tx) : Str := ⟨c.toArray⟩
theorem mkS_inj {a b : Tx} (h : mkS a = mkS b) : a = b := by
  have := congrArg Str.cps h
  simpa [mkS] using this

inductive PV where
  | none
  | bool (b : Bool)
  | int (i : Int)
  | str (c : Tx)
  | list (xs : List PV)
  | tup (xs : List PV)
  | rng (lo hi st : Int)

abbrev no : Nat → Prop := fun _ => False

mutual
def Rep (Z : Addr → Prop) (h : Heap) : PV → Value → Prop
  | .none, v => v = .none
  | .bool b, v => v = .bool b
  | .int i, v => ∃ t, v = .int i t
  | .str c, v => ∃ t, v = .str (mkS c) t
  | .list xs, v => ∃ a vs, v = .ref a ∧ Z a ∧ h.IsList a vs.toArray ∧ Reps Z h xs vs
  | .tup xs, v => ∃ a vs, v = .ref a ∧ Z a ∧ h.IsTuple a vs.toArray ∧ Reps Z h xs vs
  | .rng lo hi st, v => ∃ a t u w, v = .ref a ∧ Z a ∧ IsRange h a lo hi st t u w
def Reps (Z : Addr → Prop) (h : Heap) : List PV → List Value → Prop
  | [], vs => vs = []
  | x :: xs, vs => ∃ v ws, vs = v :: ws ∧ Rep Z h x v ∧ Reps Z h xs ws
end

mutual
theorem Rep.mono {Z Z' : Addr → Prop} {h h' : Heap} (hz : ∀ b, Z b → Z' b) (hk : ∀ b o, Z b → h.get? b = some o → h'.get? b = some o) :
    ∀ {x : PV} {v : Value}, Rep Z h x v → Rep Z' h' x v
  | .none, v, r => by simpa [Rep] using r
  | .bool b, v, r => by simpa [Rep] using r
  | .int i, v, r => by simpa [Rep] using r
  | .str c, v, r => by simpa [Rep] using r
  | .list xs, v, r => by
    simp only [Rep] at r ⊢
    obtain ⟨a, vs, e, za, ⟨o, ho, hl⟩, rs⟩ := r
    exact ⟨a, vs, e, hz _ za, ⟨o, hk a o za ho, hl⟩, Reps.mono hz hk rs⟩
  | .tup xs, v, r => by
    simp only [Rep] at r ⊢
    obtain ⟨a, vs, e, za, ⟨o, ho, hl⟩, rs⟩ := r
    exact ⟨a, vs, e, hz _ za, ⟨o, hk a o za ho, hl⟩, Reps.mono hz hk rs⟩
  | .rng lo hi st, v, r => by
    simp only [Rep] at r ⊢
    obtain ⟨a, t, u, w, e, za, hr⟩ := r
    exact ⟨a, t, u, w, e, hz _ za, hk a _ za hr⟩
theorem Reps.mono {Z Z' : Addr → Prop} {h h' : Heap} (hz : ∀ b, Z b → Z' b) (hk : ∀ b o, Z b → h.get? b = some o → h'.get? b = some o) :
    ∀ {xs : List PV} {vs : List Value}, Reps Z h xs vs → Reps Z' h' xs vs
  | [], vs, r => by simpa [Reps] using r
  | x :: xs, vs, r => by
    simp only [Reps] at r ⊢
    obtain ⟨v, ws, e, r1, r2⟩ := r
    exact ⟨v, ws, e, Rep.mono hz hk r1, Reps.mono hz hk r2⟩
end

theorem Reps.length {Z : Addr → Prop} {h : Heap} : ∀ {xs : List PV} {vs : List Value}, Reps Z h xs vs → vs.length = xs.length
  | [], vs, r => by simp only [Reps] at r; rw [r]; rfl
  | x :: xs, vs, r => by
    simp only [Reps] at r
    obtain ⟨v, ws, e, _, r2⟩ := r
    rw [e, List.length_cons, List.length_cons, r2.length]
theorem Reps.get {Z : Addr → Prop} {h : Heap} : ∀ {xs : List PV} {vs : List Value} {i : Nat} {x : PV}, Reps Z h xs vs → xs[i]? = some x → ∃ v, vs[i]? = some v ∧ Rep Z h x v
  | [], vs, i, x, r, hx => by simp at hx
  | y :: xs, vs, i, x, r, hx => by
    simp only [Reps] at r
    obtain ⟨v, ws, e, r1, r2⟩ := r
    subst e
    cases i with
    | zero => simp only [List.getElem?_cons_zero, Option.some.injEq] at hx ⊢; subst hx; exact ⟨v, rfl, r1⟩
    | succ i => simp only [List.getElem?_cons_succ] at hx ⊢; exact Reps.get r2 hx
theorem Reps.append {Z : Addr → Prop} {h : Heap} : ∀ {xs ys : List PV} {vs ws : List Value}, Reps Z h xs vs → Reps Z h ys ws → Reps Z h (xs ++ ys) (vs ++ ws)
  | [], ys, vs, ws, r, q => by simp only [Reps] at r; subst r; exact q
  | x :: xs, ys, vs, ws, r, q => by
    simp only [Reps] at r
    obtain ⟨v, us, e, r1, r2⟩ := r
    subst e
    exact ⟨v, us ++ ws, rfl, r1, Reps.append r2 q⟩
theorem Reps.take {Z : Addr → Prop} {h : Heap} : ∀ (n : Nat) {xs : List PV} {vs : List Value}, Reps Z h xs vs → Reps Z h (xs.take n) (vs.take n)
  | 0, xs, vs, r => by simp [Reps]
  | n + 1, [], vs, r => by simp only [Reps] at r; subst r; simp [Reps]
  | n + 1, x :: xs, vs, r => by
    simp only [Reps] at r
    obtain ⟨v, us, e, r1, r2⟩ := r
    subst e
    exact ⟨v, us.take n, rfl, r1, r2.take n⟩
theorem Reps.drop {Z : Addr → Prop} {h : Heap} : ∀ (n : Nat) {xs : List PV} {vs : List Value}, Reps Z h xs vs → Reps Z h (xs.drop n) (vs.drop n)
  | 0, xs, vs, r => r
  | n + 1, [], vs, r => by simp only [Reps] at r; subst r; simp [Reps]
  | n + 1, x :: xs, vs, r => by
    simp only [Reps] at r
    obtain ⟨v, us, e, r1, r2⟩ := r
    subst e
    exact r2.drop n

abbrev Liv (Z : Addr → Prop) (h : Heap) : Prop := ∀ b, Z b → ∃ o, h.get? b = some o
theorem none_size (h : Heap) : h.get? h.objs.size = none := by
  cases e : h.get? h.objs.size with
  | none => rfl
  | some o => exact absurd (Heap.lt_size e) (Nat.lt_irrefl _)

/-- what a step leaves: outside of W the heap stands, outside of H the generators stand -/
structure ExtG (W : Addr → Prop) (H : Nat → Prop) (s s' : Shared) : Prop where
  keep : ∀ b o, ¬ W b → s.heap.get? b = some o → s'.heap.get? b = some o
  gsize : s.gens.size ≤ s'.gens.size
  gens : ∀ g x, ¬ H g → s.gens[g]? = some x → s'.gens[g]? = some x
  os : s'.os = s.os
  bare : AllBare s.gens → AllBare s'.gens

theorem ExtG.refl (W : Addr → Prop) (H : Nat → Prop) (s : Shared) : ExtG W H s s :=
  ⟨fun _ _ _ e => e, Nat.le_refl _, fun _ _ _ e => e, rfl, fun x => x⟩
theorem ExtG.trans {W W' : Addr → Prop} {H H' : Nat → Prop} {s s' s'' : Shared} (x : ExtG W H s s') (y : ExtG W' H' s' s'')
    (hw : ∀ b, W' b → W b ∨ s.heap.get? b = none) (hh : ∀ g, H' g → H g ∨ s.gens.size ≤ g) : ExtG W H s s'' where
  keep := fun b o nb e => y.keep b o (fun wb => (hw b wb).elim nb fun le => by rw [le] at e; cases e) (x.keep b o nb e)
  gsize := Nat.le_trans x.gsize y.gsize
  gens := fun g st ng e => y.gens g st (fun hg => (hh g hg).elim ng fun le => by
    obtain ⟨hlt, _⟩ := Array.getElem?_eq_some_iff.mp e
    exact Nat.lt_irrefl _ (Nat.lt_of_lt_of_le hlt le)) (x.gens g st ng e)
  os := y.os.trans x.os
  bare := fun b => y.bare (x.bare b)
theorem ExtG.wide {W W' : Addr → Prop} {H H' : Nat → Prop} {s s' : Shared} (x : ExtG W H s s') (hw : ∀ b, W b → W' b ∨ s.heap.get? b = none) (hh : ∀ g, H g → H' g ∨ s.gens.size ≤ g) : ExtG W' H' s s' :=
  ExtG.trans (ExtG.refl W' H' s) x hw hh
theorem ExtG.dead {W : Addr → Prop} {H : Nat → Prop} {s s' : Shared} (x : ExtG W H s s') {b : Addr} (h : s'.heap.get? b = none) : s.heap.get? b = none ∨ W b := by
  cases e : s.heap.get? b with
  | none => exact .inl rfl
  | some o =>
    by_cases w : W b
    · exact .inr w
    · have := x.keep b o w e; rw [h] at this; cases this

abbrev Ext0 := ExtG no no
theorem Ext0.any {W : Addr → Prop} {H : Nat → Prop} {s s' : Shared} (x : Ext0 s s') : ExtG W H s s' := x.wide (fun _ h => h.elim) (fun _ h => h.elim)
theorem Ext0.trans' {s s' s'' : Shared} (x : Ext0 s s') (y : Ext0 s' s'') : Ext0 s s'' := x.trans y (fun _ h => h.elim) (fun _ h => h.elim)
theorem Ext0.dead {s s' : Shared} (x : Ext0 s s') {b : Addr} (h : s'.heap.get? b = none) : s.heap.get? b = none := (ExtG.dead x h).elim id fun f => f.elim
theorem Ext0.alive {s s' : Shared} (x : Ext0 s s') : ∀ b o, s.heap.get? b = some o → ∃ o', s'.heap.get? b = some o' := fun b o e => ⟨o, x.keep b o (fun h => h) e⟩
theorem Ext0.keep' {s s' : Shared} (x : Ext0 s s') : ∀ b o, s.heap.get? b = some o → s'.heap.get? b = some o := fun b o e => x.keep b o (fun h => h) e

theorem Ext0.heap {s : Shared} {h' : Heap} {tk : Nat} (hk : ∀ b o, s.heap.get? b = some o → h'.get? b = some o) : Ext0 s { s with heap := h', toks := tk } :=
  ⟨fun b o _ e => hk b o e, Nat.le_refl _, fun _ _ _ e => e, rfl, fun x => x⟩
theorem Ext0.tok (s : Shared) (tk : Nat) : Ext0 s { s with toks := tk } := Ext0.heap fun _ _ e => e
theorem Ext0.push (s : Shared) (o : Obj) (tk : Nat) : Ext0 s { s with heap := s.heap.push o, toks := tk } :=
  Ext0.heap fun _ _ e => Heap.get?_push_of_some o e

/-- the frozen set grows by new things alone -/
structure ZG (Z : Addr → Prop) (s : Shared) (Z' : Addr → Prop) (s' : Shared) : Prop where
  sub : ∀ b, Z b → Z' b
  new : ∀ b, Z' b → Z b ∨ s.heap.get? b = none
  lt : Liv Z' s'.heap

theorem ZG.refl {Z : Addr → Prop} {s : Shared} (h : Liv Z s.heap) : ZG Z s Z s := ⟨fun _ x => x, fun _ x => .inl x, h⟩
theorem ZG.trans {Z Z' Z'' : Addr → Prop} {s s' s'' : Shared} (x : ZG Z s Z' s') (y : ZG Z' s' Z'' s'') (h : Ext0 s s') : ZG Z s Z'' s'' :=
  ⟨fun b z => y.sub b (x.sub b z), fun b z => (y.new b z).elim (fun z => x.new b z) fun le => .inr (Ext0.dead h le), y.lt⟩
theorem ZG.same {Z : Addr → Prop} {s s' : Shared} (h : Liv Z s.heap) (x : Ext0 s s') : ZG Z s Z s' :=
  ⟨fun _ z => z, fun _ z => .inl z, fun b z => let ⟨o, e⟩ := h b z; Ext0.alive x b o e⟩
/-- with one new object -/
theorem ZG.one {Z : Addr → Prop} {s s' : Shared} {a : Addr} {o : Obj} (h : Liv Z s.heap) (x : Ext0 s s') (ha : s.heap.get? a = none) (ho : s'.heap.get? a = some o) :
    ZG Z s (fun b => Z b ∨ b = a) s' :=
  ⟨fun _ z => .inl z, fun _ z => z.elim .inl fun e => .inr (e ▸ ha), fun b z => z.elim (fun z => let ⟨o, e⟩ := h b z; Ext0.alive x b o e) fun e => ⟨o, e ▸ ho⟩⟩
theorem ZG.push {Z : Addr → Prop} {s : Shared} (o : Obj) (tk : Nat) (h : Liv Z s.heap) (ho : o.isFreed = false := by rfl) :
    ZG Z s (fun b => Z b ∨ b = s.heap.objs.size) { s with heap := s.heap.push o, toks := tk } :=
  ZG.one h (Ext0.push s o tk) (none_size _) (Heap.get?_push_size _ ho)

theorem Rep.ext {Z Z' : Addr → Prop} {s s' : Shared} {x : PV} {v : Value} (r : Rep Z s.heap x v) (e : Ext0 s s') (z : ZG Z s Z' s') : Rep Z' s'.heap x v :=
  r.mono z.sub fun b o _ q => e.keep' b o q
theorem Reps.ext {Z Z' : Addr → Prop} {s s' : Shared} {xs : List PV} {vs : List Value} (r : Reps Z s.heap xs vs) (e : Ext0 s s') (z : ZG Z s Z' s') : Reps Z' s'.heap xs vs :=
  r.mono z.sub fun b o _ q => e.keep' b o q

structure Gc where
  prog : Program
  w : World
  p : Program
  loose : List Str
  mean : ExcName → Option Value
  mg : Str → Option Value
  mb : Str → Option Value
  base : Heap
  top : Top p loose mean mg mb base

def OkA (n : Nat) (A : Around) : Prop := A.handled = none ∧ A.depth + n < 1000 ∧ A.units + 8 * n + 100 < 9900

structure Fi where
  sc : Scope
  L : Addr
  cells : List (Str × Addr)
  q : Str
  fn : Option Addr
  cd : Value
  fr : Option Addr
  own : Bool
  Z0 : Addr → Prop
  h0 : Heap

def Fi.env (F : Fi) : Env := { scope := F.sc, locals := F.L, globals := mainGlobals, cells := F.cells, qual := F.q, func := F.fn, code := F.cd, frame := F.fr, builtins := builtinsNs }

inductive Slot where
  | val (x : PV)
  | own (xs : List PV)

abbrev Loc := List (Str × Slot)

def VarAt (F : Fi) (h : Heap) (x : Str) (v : Value) : Prop :=
  (F.sc.names.lookup x = some .local ∧ ∃ m, h.Ns F.L m ∧ m x = some v) ∨
  (F.sc.names.lookup x = some .cell ∧ ∃ c, F.cells.lookup x = some c ∧ h.IsCell c (some v))

theorem VarAt.mono {F : Fi} {h h' : Heap} {x : Str} {v : Value} (r : VarAt F h x v) (hk : ∀ b o, h.get? b = some o → h'.get? b = some o) : VarAt F h' x v := by
  rcases r with ⟨k, m, hn, hm⟩ | ⟨k, c, hc, hv⟩
  · exact .inl ⟨k, m, hn.keeps hk, hm⟩
  · exact .inr ⟨k, c, hc, hv.keeps hk⟩

structure St (G : Gc) (F : Fi) (Z W : Addr → Prop) (σ : Loc) (s : Shared) : Prop where
  b0 : ∀ b o, G.base.get? b = some o → F.h0.get? b = some o
  hk : ∀ b o, F.h0.get? b = some o → s.heap.get? b = some o
  bare : AllBare s.gens
  zlt : Liv Z s.heap
  wlt : Liv W s.heap
  wn0 : ∀ b, W b → F.h0.get? b = none
  disj : ∀ b, Z b → ¬ W b
  z0 : ∀ b, Z b → F.Z0 b ∨ F.h0.get? b = none
  z1 : ∀ b, F.Z0 b → Z b
  LW : W F.L
  kind : F.sc.kind = .function
  ns : ∃ m, s.heap.Ns F.L m
  cells : F.own = true → ∀ x, F.sc.names.lookup x = some .cell → ∃ c v, F.cells.lookup x = some c ∧ s.heap.IsCell c v ∧ W c
  inj : F.own = true → ∀ x y c, F.cells.lookup x = some c → F.cells.lookup y = some c → x = y
  ownd : F.sc.names.lookup (".0" : Str) = none → F.own = true
  vals : ∀ x pv, σ.lookup x = some (.val pv) → ∃ v, VarAt F s.heap x v ∧ Rep Z s.heap pv v
  owns : ∃ ad : Str → Addr, (∀ x xs, σ.lookup x = some (.own xs) → W (ad x) ∧ VarAt F s.heap x (.ref (ad x)) ∧ ∃ vs, s.heap.PlainList (ad x) vs.toArray ∧ Reps Z s.heap xs vs) ∧
    ∀ x y xs ys, σ.lookup x = some (.own xs) → σ.lookup y = some (.own ys) → x ≠ y → ad x ≠ ad y

theorem St.base {G : Gc} {F : Fi} {Z W : Addr → Prop} {σ : Loc} {s : Shared} (x : St G F Z W σ s) : ∀ b o, G.base.get? b = some o → s.heap.get? b = some o := fun b o e => x.hk b o (x.b0 b o e)

theorem St.ext {G : Gc} {F : Fi} {Z Z' W : Addr → Prop} {σ : Loc} {s s' : Shared} (x : St G F Z W σ s) (e : Ext0 s s') (z : ZG Z s Z' s') : St G F Z' W σ s' where
  b0 := x.b0
  hk := fun b o q => e.keep' b o (x.hk b o q)
  bare := e.bare x.bare
  zlt := z.lt
  wlt := fun b wb => let ⟨o, q⟩ := x.wlt b wb; Ext0.alive e b o q
  wn0 := x.wn0
  disj := fun b zb wb => (z.new b zb).elim (fun zb => x.disj b zb wb) fun le => by
    obtain ⟨o, q⟩ := x.wlt b wb
    rw [le] at q; cases q
  z0 := fun b zb => (z.new b zb).elim (fun zb => x.z0 b zb) fun le => .inr (by
    cases q : F.h0.get? b with
    | none => rfl
    | some o => rw [x.hk b o q] at le; cases le)
  z1 := fun b zb => z.sub b (x.z1 b zb)
  LW := x.LW
  kind := x.kind
  ns := let ⟨m, hm⟩ := x.ns; ⟨m, hm.keeps e.keep'⟩
  cells := fun o y hy => let ⟨c, v, h1, h2, h3⟩ := x.cells o y hy; ⟨c, v, h1, h2.keeps e.keep', h3⟩
  inj := x.inj
  ownd := x.ownd
  vals := fun y pv hy => let ⟨v, h1, h2⟩ := x.vals y pv hy; ⟨v, h1.mono e.keep', h2.ext e z⟩
  owns := by
    obtain ⟨ad, h1, h2⟩ := x.owns
    refine ⟨ad, fun y xs hy => ?_, h2⟩
    obtain ⟨hw, hv, vs, ⟨n, hp⟩, hr⟩ := h1 y xs hy
    exact ⟨hw, hv.mono e.keep', vs, ⟨n, e.keep' _ _ hp⟩, hr.ext e z⟩

/-- names may be dropped, an owned list may be taken as it is said again -/
theorem St.weak {G : Gc} {F : Fi} {Z W : Addr → Prop} {σ τ : Loc} {s : Shared} (x : St G F Z W σ s) (h : ∀ y sl, τ.lookup y = some sl → σ.lookup y = some sl) : St G F Z W τ s :=
  { x with
    vals := fun y pv hy => x.vals y pv (h _ _ hy)
    owns := let ⟨ad, h1, h2⟩ := x.owns; ⟨ad, fun y xs hy => h1 y xs (h _ _ hy), fun y z xs ys hy hz => h2 y z xs ys (h _ _ hy) (h _ _ hz)⟩ }

structure Ev (G : Gc) (n : Nat) (sc : Scope) (σ : Loc) (e : Expr) (pv : PV) : Prop where
  run : ∀ (F : Fi) (A : Around) (Z W : Addr → Prop) (s : Shared) (Q : Value → Shared → Prop) (E : Value → Shared → Prop), F.sc = sc → OkA n A → St G F Z W σ s →
    (∀ v s' Z', Ext0 s s' → ZG Z s Z' s' → Rep Z' s'.heap pv v → Q v s') → wpAny (model G.prog G.w) A (eval e F.env) Q E s

structure EvT (G : Gc) (n : Nat) (sc : Scope) (σ : Loc) (e : Expr) (b : Bool) : Prop where
  run : ∀ (F : Fi) (A : Around) (Z W : Addr → Prop) (s : Shared) (Q : Bool → Shared → Prop) (E : Value → Shared → Prop), F.sc = sc → OkA n A → St G F Z W σ s →
    (∀ s' Z', Ext0 s s' → ZG Z s Z' s' → Q b s') → wpAny (model G.prog G.w) A (isTrue e F.env (eval e F.env)) Q E s

structure EvL (G : Gc) (n : Nat) (sc : Scope) (σ : Loc) (es : List Expr) (pvs : List PV) : Prop where
  run : ∀ (F : Fi) (A : Around) (Z W : Addr → Prop) (s : Shared) (Q : List Value → Shared → Prop) (E : Value → Shared → Prop) (pos : Pos), F.sc = sc → OkA n A → St G F Z W σ s →
    (∀ vs s' Z', Ext0 s s' → ZG Z s Z' s' → Reps Z' s'.heap pvs vs → Q vs s') → wpAny (model G.prog G.w) A (spliced (backTo pos (starEach es F.env))) Q E s

section
variable {G : Gc} {n : Nat} {sc : Scope} {σ : Loc}

theorem Ev.cNone {k pos} : Ev G n sc σ (.Constant .none k pos) .none := ⟨fun F A Z W s Q E _ _ st h =>
  wpAny_Constant_none (h _ _ Z (ExtG.refl ..) (ZG.refl st.zlt) (by simp [Rep]))⟩
theorem Ev.cBool {b k pos} : Ev G n sc σ (.Constant (.bool b) k pos) (.bool b) := ⟨fun F A Z W s Q E _ _ st h =>
  wpAny_Constant_bool (h _ _ Z (ExtG.refl ..) (ZG.refl st.zlt) (by simp [Rep]))⟩
theorem Ev.cInt {i k pos} : Ev G n sc σ (.Constant (.int i) k pos) (.int i) := ⟨fun F A Z W s Q E _ _ st h =>
  wpAny_Constant_int (h _ _ Z (Ext0.tok ..) (ZG.same st.zlt (Ext0.tok _ _)) (by simp [Rep]))⟩
theorem Ev.cStr {x : Str} {c : Tx} {k pos} (hx : x = mkS c) : Ev G n sc σ (.Constant (.str x) k pos) (.str c) := ⟨fun F A Z W s Q E _ _ st h =>
  wpAny_Constant_str (h _ _ Z (Ext0.tok ..) (ZG.same st.zlt (Ext0.tok _ _)) (by simp [Rep, hx]))⟩

theorem Ev.name {x : Str} {pv : PV} {pos} (hx : σ.lookup x = some (.val pv)) (hd : (x == ("__debug__" : Str)) = false) : Ev G n sc σ (.Name x pos) pv := by
  refine ⟨fun F A Z W s Q E hsc ok st h => ?_⟩
  obtain ⟨v, hv, hr⟩ := st.vals x pv hx
  rcases hv with ⟨k, m, hn, hm⟩ | ⟨k, c, hc, hv⟩
  · exact wpAny_Name (wpAny_loadName_local (env := F.env) st.kind k hn hm (h _ _ Z (ExtG.refl ..) (ZG.refl st.zlt) hr)) hd
  · exact wpAny_Name (wpAny_loadName_cell (env := F.env) st.kind k hc hv (h _ _ Z (ExtG.refl ..) (ZG.refl st.zlt) hr)) hd

theorem EvL.nil : EvL G n sc σ [] [] := ⟨fun F A Z W s Q E pos _ _ st h => wpAny_items_nil (h _ _ Z (ExtG.refl ..) (ZG.refl st.zlt) (by simp [Reps]))⟩
theorem EvL.cons {e : Expr} {es : List Expr} {x : PV} {xs : List PV} (h1 : Ev G n sc σ e x) (h2 : EvL G n sc σ es xs)
    (he : ∀ env, starEach (e :: es) env = (false, eval e env) :: starEach es env) : EvL G n sc σ (e :: es) (x :: xs) := by
  refine ⟨fun F A Z W s Q E pos hsc ok st h => ?_⟩
  refine wpAny_items_cons (h1.run F A Z W s _ _ hsc ok st fun v s1 Z1 e1 z1 r1 => ?_) (he _)
  refine h2.run F A Z1 W s1 _ _ pos hsc ok (st.ext e1 z1) fun vs s2 Z2 e2 z2 r2 => ?_
  exact h _ _ Z2 (e1.trans' e2) (z1.trans z2 e1) ⟨v, vs, rfl, r1.ext e2 z2, r2⟩

theorem Ev.mkL {es : List Expr} {xs : List PV} {pos} (h1 : EvL G n sc σ es xs) (hl : xs.length ≤ 1000000) : Ev G n sc σ (.List es pos) (.list xs) := by
  refine ⟨fun F A Z W s Q E hsc ok st h => ?_⟩
  refine wpAny_List (h1.run F A Z W s _ _ pos hsc ok st fun vs s1 Z1 e1 z1 r1 => ⟨?_, ?_⟩)
  · rw [r1.length, sizeLine_eq]; omega
  · have st1 := st.ext e1 z1
    refine h _ _ _ (e1.trans' (Ext0.push s1 _ s1.toks)) (z1.trans (ZG.push _ s1.toks st1.zlt) e1) ?_
    simp only [Rep]
    exact ⟨_, vs, rfl, .inr rfl, ⟨_, Heap.get?_push_size _ rfl, rfl, _, rfl⟩, r1.mono (fun _ z => .inl z) fun b o _ q => Heap.get?_push_of_some _ q⟩
theorem Ev.mkT {es : List Expr} {xs : List PV} {k pos} (h1 : EvL G n sc σ es xs) (hl : xs.length ≤ 1000000) : Ev G n sc σ (.Tuple es k pos) (.tup xs) := by
  refine ⟨fun F A Z W s Q E hsc ok st h => ?_⟩
  refine wpAny_Tuple (h1.run F A Z W s _ _ pos hsc ok st fun vs s1 Z1 e1 z1 r1 => ⟨?_, ?_⟩)
  · rw [r1.length, sizeLine_eq]; omega
  · have st1 := st.ext e1 z1
    refine h _ _ _ (e1.trans' (Ext0.push s1 _ s1.toks)) (z1.trans (ZG.push _ s1.toks st1.zlt) e1) ?_
    simp only [Rep]
    exact ⟨_, vs, rfl, .inr rfl, ⟨_, Heap.get?_push_size _ rfl, rfl, _, rfl⟩, r1.mono (fun _ z => .inl z) fun b o _ q => Heap.get?_push_of_some _ q⟩
end

end Mine
namespace Mine

def OpV (G : Gc) (n : Nat) (t : Value → Value → Sem Value) (a b c : PV) : Prop :=
  ∀ (A : Around) (Z : Addr → Prop) (s : Shared) (v w : Value) (Q : Value → Shared → Prop) (E : Value → Shared → Prop), OkA n A → (Liv Z s.heap) →
    Rep Z s.heap a v → Rep Z s.heap b w → (∀ r s' Z', Ext0 s s' → ZG Z s Z' s' → Rep Z' s'.heap c r → Q r s') → wpAny (model G.prog G.w) A (t v w) Q E s
abbrev BinV (G : Gc) (n : Nat) (op : Operator) := OpV G n (binaryOp op)
abbrev CmpV (G : Gc) (n : Nat) (op : CmpOp) := OpV G n (compareOp op)
abbrev InV (G : Gc) (n : Nat) (op : Operator) := OpV G n (inplaceOp op)

theorem fin0 {Z : Addr → Prop} {s : Shared} {c : PV} {v : Value} {Q : Value → Shared → Prop} (h : ∀ r s' Z', Ext0 s s' → ZG Z s Z' s' → Rep Z' s'.heap c r → Q r s') (zl : Liv Z s.heap)
    (r : Rep Z s.heap c v) : Q v s := h _ _ Z (ExtG.refl ..) (ZG.refl zl) r
theorem finT {Z : Addr → Prop} {s : Shared} {c : PV} {v : Value} {tk : Nat} {Q : Value → Shared → Prop} (h : ∀ r s' Z', Ext0 s s' → ZG Z s Z' s' → Rep Z' s'.heap c r → Q r s') (zl : Liv Z s.heap)
    (r : Rep Z s.heap c v) : Q v { s with toks := tk } := h _ _ Z (Ext0.tok ..) (ZG.same zl (Ext0.tok _ _)) r

def bi (p : Bool) : Int := if p then 1 else 0

theorem mkS_cps (c : Tx) : (mkS c).cps.toList = c := rfl
theorem mkS_len (c : Tx) : (mkS c).length = c.length := by simp [mkS, Str.length]
theorem mkS_app (a b : Tx) : mkS a ++ mkS b = mkS (a ++ b) := Str.ext' (by rw [Str.cps_append]; simp [mkS])
theorem ofT {P : PV → Value → Prop} : True := trivial

section
variable {G : Gc} {n : Nat} {σ : Loc} {sc : Scope}

theorem BinV.addI {a b : Int} : BinV G n .Add (.int a) (.int b) (.int (a + b)) := by
  intro A Z s v w Q E ok zl ra rb h
  simp only [Rep] at ra rb
  obtain ⟨t, rfl⟩ := ra
  obtain ⟨u, rfl⟩ := rb
  exact PyProof.Rows.add_int (finT h zl (by simp [Rep]))
theorem BinV.subI {a b : Int} : BinV G n .Sub (.int a) (.int b) (.int (a - b)) := by
  intro A Z s v w Q E ok zl ra rb h
  simp only [Rep] at ra rb
  obtain ⟨t, rfl⟩ := ra
  obtain ⟨u, rfl⟩ := rb
  exact PyProof.Rows.sub_int (finT h zl (by simp [Rep]))
theorem BinV.subB {a b : Bool} : BinV G n .Sub (.bool a) (.bool b) (.int (bi a - bi b)) := by
  intro A Z s v w Q E ok zl ra rb h
  simp only [Rep] at ra rb
  subst ra rb
  exact PyProof.Rows.sub_bool (finT h zl (by simp [Rep, bi, PyProof.Rows.b2i]))
theorem BinV.mulI {a b : Int} (hm : IntMulOk a b) : BinV G n .Mult (.int a) (.int b) (.int (a * b)) := by
  intro A Z s v w Q E ok zl ra rb h
  simp only [Rep] at ra rb
  obtain ⟨t, rfl⟩ := ra
  obtain ⟨u, rfl⟩ := rb
  exact PySem.P.mul_int (finT h zl (by simp [Rep])) hm
theorem BinV.modI {a b : Int} (hb : b ≠ 0) : BinV G n .Mod (.int a) (.int b) (.int (a.fmod b)) := by
  intro A Z s v w Q E ok zl ra rb h
  simp only [Rep] at ra rb
  obtain ⟨t, rfl⟩ := ra
  obtain ⟨u, rfl⟩ := rb
  exact PyProof.Rows.mod_int' hb (finT h zl (by simp [Rep]))
theorem BinV.divI {a b : Int} (hb : b ≠ 0) (hp : Builtin.divisionGoesByPylong a b = false) : BinV G n .FloorDiv (.int a) (.int b) (.int (a.fdiv b)) := by
  intro A Z s v w Q E ok zl ra rb h
  simp only [Rep] at ra rb
  obtain ⟨t, rfl⟩ := ra
  obtain ⟨u, rfl⟩ := rb
  exact PyProof.Rows.floordiv_int hb (finT h zl (by simp [Rep])) (.inl hp)
theorem BinV.pow106 : BinV G n .Pow (.int 10) (.int 6) (.int 1000000) := by
  intro A Z s v w Q E ok zl ra rb h
  simp only [Rep] at ra rb
  obtain ⟨t, rfl⟩ := ra
  obtain ⟨u, rfl⟩ := rb
  exact AutoIntOps.pow_4 (by decide) (by decide) (by decide) (by decide) (by decide +kernel) (finT h zl (by simp [Rep]))

theorem addS {n : Nat} {a b : Tx} (hl : a.length + b.length ≤ 1000000) {A : Around} {Z : Addr → Prop} {s : Shared} {t u : Tok} {Q : Value → Shared → Prop} (zl : Liv Z s.heap)
    (h : ∀ r s' Z', Ext0 s s' → ZG Z s Z' s' → Rep Z' s'.heap (.str (a ++ b)) r → Q r s') :
    (if (mkS a).length == 0 then Made.val (.str (mkS b) u) else if (mkS b).length == 0 then Made.val (.str (mkS a) t) else Made.str (mkS a ++ mkS b)).post Q s := by
  rw [mkS_len, mkS_len]
  split
  · rename_i q
    have : a = [] := by simpa using q
    subst this
    exact fin0 h zl (by simp [Rep])
  · split
    · rename_i q
      have : b = [] := by simpa using q
      subst this
      exact fin0 h zl (by simp [Rep])
    · show (mkS a ++ mkS b).length ≤ sizeLine ∧ _
      rw [mkS_app, mkS_len, List.length_append]
      exact ⟨by rw [sizeLine_eq]; omega, finT h zl (by simp [Rep])⟩
theorem BinV.addS {a b : Tx} (hl : a.length + b.length ≤ 1000000) : BinV G n .Add (.str a) (.str b) (.str (a ++ b)) := by
  intro A Z s v w Q E ok zl ra rb h
  simp only [Rep] at ra rb
  obtain ⟨t, rfl⟩ := ra
  obtain ⟨u, rfl⟩ := rb
  exact PySem.P.add_str (Mine.addS (A := A) (n := n) hl zl h)
end
end Mine
namespace Mine

mutual
def toPy : PV → PyData
  | .none => .none
  | .bool b => .bool b
  | .int i => .int i
  | .str c => .str (mkS c)
  | .list xs => .list (toPys xs)
  | .tup xs => .tuple (toPys xs)
  | .rng _ _ _ => .none
def toPys : List PV → List PyData
  | [] => []
  | x :: xs => toPy x :: toPys xs
end

mutual
def peq : PV → PV → Bool
  | .none, .none => true
  | .bool a, .bool b => a == b
  | .bool a, .int j => (if a then 1 else 0) == j
  | .int i, .bool b => i == (if b then 1 else 0)
  | .int i, .int j => i == j
  | .str x, .str y => x == y
  | .list xs, .list ys => peqs xs ys
  | .tup xs, .tup ys => peqs xs ys
  | _, _ => false
def peqs : List PV → List PV → Bool
  | [], [] => true
  | x :: xs, y :: ys => peq x y && peqs xs ys
  | _, _ => false
end

def pok : Nat → PV → Bool
  | _, .none => true
  | _, .bool _ => true
  | _, .int _ => true
  | _, .str c => c.all (· < 1114112)
  | n + 1, .list xs => xs.all (pok n)
  | n + 1, .tup xs => xs.all (pok n)
  | _, _ => false

mutual
theorem rep_reads {Z : Addr → Prop} {h : Heap} : ∀ {n : Nat} {p : PV} {v : Value}, Rep Z h p v → pok n p = true → ∃ as, Reads h v (toPy p) as
  | n, .none, v, r, _ => by simp only [Rep] at r; subst r; exact ⟨_, by simp only [toPy]; exact .none⟩
  | n, .bool b, v, r, _ => by simp only [Rep] at r; subst r; exact ⟨_, by simp only [toPy]; exact .bool b⟩
  | n, .int i, v, r, _ => by simp only [Rep] at r; obtain ⟨t, rfl⟩ := r; exact ⟨_, by simp only [toPy]; exact .int i t⟩
  | n, .str c, v, r, _ => by simp only [Rep] at r; obtain ⟨t, rfl⟩ := r; exact ⟨_, by simp only [toPy]; exact .str _ t⟩
  | 0, .list xs, v, r, k => by simp [pok] at k
  | 0, .tup xs, v, r, k => by simp [pok] at k
  | n + 1, .list xs, v, r, k => by
    simp only [Rep] at r
    obtain ⟨a, vs, rfl, _, ⟨o, ho, hc, m, hd⟩, rs⟩ := r
    obtain ⟨as, q⟩ := reps_reads rs (n := n) (by simpa [pok] using k)
    simp only [toPy]
    exact ⟨_, .list ho hc hd q⟩
  | n + 1, .tup xs, v, r, k => by
    simp only [Rep] at r
    obtain ⟨a, vs, rfl, _, ⟨o, ho, hc, m, hd⟩, rs⟩ := r
    obtain ⟨as, q⟩ := reps_reads rs (n := n) (by simpa [pok] using k)
    simp only [toPy]
    exact ⟨_, .tuple ho hc hd q⟩
  | n, .rng _ _ _, v, r, k => by cases n <;> simp [pok] at k
theorem reps_reads {Z : Addr → Prop} {h : Heap} : ∀ {n : Nat} {xs : List PV} {vs : List Value}, Reps Z h xs vs → (∀ x ∈ xs, pok n x = true) → ∃ as, ReadsAll h vs (toPys xs) as
  | n, [], vs, r, _ => by simp only [Reps] at r; subst r; exact ⟨_, by simp only [toPys]; exact .nil⟩
  | n, x :: xs, vs, r, k => by
    simp only [Reps] at r
    obtain ⟨v, ws, rfl, r1, r2⟩ := r
    obtain ⟨as, q1⟩ := rep_reads r1 (k x (.head _))
    obtain ⟨bs, q2⟩ := reps_reads r2 fun y hy => k y (.tail _ hy)
    simp only [toPys]
    exact ⟨_, .cons q1 q2⟩
end

mutual
theorem py_eqv : ∀ {n : Nat} {a : PV} (b : PV) {m : Nat}, pok n a = true → pok m b = true → PyData.eqv (toPy a) (toPy b) = peq a b
  | n, .none, b, m, _, kb => by cases b <;> first | rfl | (simp [toPy, peq, PyData.eqv]; done) | (cases m <;> simp [pok] at kb)
  | n, .bool _, b, m, _, kb => by cases b <;> first | rfl | (simp [toPy, peq, PyData.eqv]; done) | (cases m <;> simp [pok] at kb)
  | n, .int _, b, m, _, kb => by cases b <;> first | rfl | (simp [toPy, peq, PyData.eqv]; done) | (cases m <;> simp [pok] at kb)
  | n, .str c, b, m, _, kb => by
    cases b with
    | str d =>
      simp only [toPy, peq, PyData.eqv]
      by_cases e : c = d
      · subst e; simp
      · have : mkS c ≠ mkS d := fun q => e (mkS_inj q)
        rw [beq_eq_false_iff_ne.mpr e, beq_eq_false_iff_ne.mpr this]
    | _ => first | rfl | (simp [toPy, peq, PyData.eqv]; done) | (cases m <;> simp [pok] at kb)
  | 0, .list xs, b, m, k, _ => by simp [pok] at k
  | 0, .tup xs, b, m, k, _ => by simp [pok] at k
  | n + 1, .list xs, b, m, ka, kb => by
    cases b with
    | list ys =>
      cases m with
      | zero => simp [pok] at kb
      | succ m => simp only [toPy, peq, PyData.eqv]; exact pys_eqv ys (n := n) (m := m) (by simpa [pok] using ka) (by simpa [pok] using kb)
    | _ => first | rfl | (simp [toPy, peq, PyData.eqv]; done) | (cases m <;> simp [pok] at kb)
  | n + 1, .tup xs, b, m, ka, kb => by
    cases b with
    | tup ys =>
      cases m with
      | zero => simp [pok] at kb
      | succ m => simp only [toPy, peq, PyData.eqv]; exact pys_eqv ys (n := n) (m := m) (by simpa [pok] using ka) (by simpa [pok] using kb)
    | _ => first | rfl | (simp [toPy, peq, PyData.eqv]; done) | (cases m <;> simp [pok] at kb)
  | n, .rng _ _ _, b, m, k, _ => by cases n <;> simp [pok] at k
theorem pys_eqv : ∀ {n : Nat} {xs : List PV} (ys : List PV) {m : Nat}, (∀ x ∈ xs, pok n x = true) → (∀ y ∈ ys, pok m y = true) → PyData.eqvAll (toPys xs) (toPys ys) = peqs xs ys
  | n, [], ys, m, _, _ => by cases ys <;> simp [toPys, peqs, PyData.eqvAll]
  | n, x :: xs, ys, m, ka, kb => by
    cases ys with
    | nil => simp [toPys, peqs, PyData.eqvAll]
    | cons y ys =>
      simp only [toPys, peqs, PyData.eqvAll]
      rw [py_eqv y (ka x (.head _)) (kb y (.head _)), pys_eqv ys (fun z hz => ka z (.tail _ hz)) fun z hz => kb z (.tail _ hz)]
end

theorem pok_lay : ∀ (n : Nat) (p : PV), pok n p = true → (toPy p).canLay0 = true ∧ (toPy p).depth ≤ n := by
  have all : ∀ (n : Nat), (∀ p, pok n p = true → (toPy p).canLay0 = true ∧ (toPy p).depth ≤ n) → ∀ xs : List PV, (∀ x ∈ xs, pok n x = true) → PyData.canLayAll0 (toPys xs) = true ∧ PyData.depthAll (toPys xs) ≤ n := by
    intro n ih xs
    induction xs with
    | nil => intro _; simp [toPys, PyData.canLayAll0, PyData.depthAll]
    | cons x xs hi =>
      intro h
      have h1 := ih x (h x (.head _))
      have h2 := hi fun e he => h e (.tail _ he)
      simp only [toPys, PyData.canLayAll0, PyData.depthAll, h1.1, h2.1, Bool.and_self, true_and]
      have a1 := h1.2
      have a2 := h2.2
      omega
  have str : ∀ c : Tx, c.all (· < 1114112) = true → PyData.strOk (mkS c) = true := by
    intro c h
    unfold PyData.strOk mkS
    simpa using h
  intro n
  induction n with
  | zero => intro p h; cases p <;> simp_all [pok, toPy, PyData.canLay0, PyData.depth]
  | succ n ih =>
    intro p h
    cases p with
    | none => simp [toPy, PyData.canLay0, PyData.depth]
    | bool b => simp [toPy, PyData.canLay0, PyData.depth]
    | int i => simp [toPy, PyData.canLay0, PyData.depth]
    | str c => simp only [pok] at h; simp [toPy, PyData.canLay0, PyData.depth, str c h]
    | list xs =>
      have q := all n ih xs (by simpa [pok] using h)
      have q2 := q.2
      simp only [toPy, PyData.canLay0, PyData.depth, q.1, true_and]
      omega
    | tup xs =>
      have q := all n ih xs (by simpa [pok] using h)
      have q2 := q.2
      simp only [toPy, PyData.canLay0, PyData.depth, q.1, true_and]
      omega
    | rng _ _ _ => simp [pok] at h
theorem pok_shaped {n : Nat} {p : PV} (h : pok n p = true) (hn : n ≤ 64) : SeqAt.shaped (toPy p) = true := by
  have := pok_lay n p h
  unfold SeqAt.shaped
  rw [this.1, Bool.true_and]
  exact decide_eq_true (Nat.le_trans this.2 hn)

section
variable {G : Gc} {n : Nat} {σ : Loc} {sc : Scope}

theorem CmpV.eq {a b : PV} {k m : Nat} (ka : pok k a = true) (kb : pok m b = true) (hk : k ≤ 64) (hm : m ≤ 64) : CmpV G n .Eq a b (.bool (peq a b)) := by
  intro A Z s v w Q E ok zl ra rb h
  obtain ⟨as, qa⟩ := rep_reads ra ka
  obtain ⟨bs, qb⟩ := rep_reads rb kb
  refine PyProof.Rows.eq_dataH qa qb (pok_shaped ka hk) (pok_shaped kb hm) (by have := ok.2.2; unfold cLine; omega) ?_
  rw [py_eqv b ka kb]
  exact fin0 h zl (by simp [Rep])
theorem CmpV.ne {a b : PV} {k m : Nat} (ka : pok k a = true) (kb : pok m b = true) (hk : k ≤ 64) (hm : m ≤ 64) : CmpV G n .NotEq a b (.bool (!peq a b)) := by
  intro A Z s v w Q E ok zl ra rb h
  obtain ⟨as, qa⟩ := rep_reads ra ka
  obtain ⟨bs, qb⟩ := rep_reads rb kb
  refine PyProof.Rows.ne_dataH qa qb (pok_shaped ka hk) (pok_shaped kb hm) (by have := ok.2.2; unfold cLine; omega) ?_
  rw [py_eqv b ka kb]
  exact fin0 h zl (by simp [Rep])
theorem CmpV.eqS {a b : Tx} : CmpV G n .Eq (.str a) (.str b) (.bool (a == b)) := by
  intro A Z s v w Q E ok zl ra rb h
  simp only [Rep] at ra rb
  obtain ⟨t, rfl⟩ := ra
  obtain ⟨u, rfl⟩ := rb
  exact PySem.P.eq_str (fin0 h zl (by simp [Rep, mkS_cps]))
theorem CmpV.neS {a b : Tx} : CmpV G n .NotEq (.str a) (.str b) (.bool (a != b)) := by
  intro A Z s v w Q E ok zl ra rb h
  simp only [Rep] at ra rb
  obtain ⟨t, rfl⟩ := ra
  obtain ⟨u, rfl⟩ := rb
  exact PySem.P.ne_str (fin0 h zl (by simp [Rep, mkS_cps]))
theorem CmpV.ltS {a b : Tx} : CmpV G n .Lt (.str a) (.str b) (.bool (decide (a < b))) := by
  intro A Z s v w Q E ok zl ra rb h
  simp only [Rep] at ra rb
  obtain ⟨t, rfl⟩ := ra
  obtain ⟨u, rfl⟩ := rb
  exact PySem.P.lt_str (fin0 h zl (by simp only [Rep, mkS_cps]; congr))
theorem CmpV.gtS {a b : Tx} : CmpV G n .Gt (.str a) (.str b) (.bool (decide (b < a))) := by
  intro A Z s v w Q E ok zl ra rb h
  simp only [Rep] at ra rb
  obtain ⟨t, rfl⟩ := ra
  obtain ⟨u, rfl⟩ := rb
  exact PySem.P.gt_str (fin0 h zl (by simp only [Rep, mkS_cps]; congr))
theorem CmpV.leS {a b : Tx} : CmpV G n .LtE (.str a) (.str b) (.bool (!decide (b < a))) := by
  intro A Z s v w Q E ok zl ra rb h
  simp only [Rep] at ra rb
  obtain ⟨t, rfl⟩ := ra
  obtain ⟨u, rfl⟩ := rb
  exact PySem.P.le_str (fin0 h zl (by simp only [Rep, mkS_cps]; congr))
theorem CmpV.eqI {a b : Int} : CmpV G n .Eq (.int a) (.int b) (.bool (a == b)) := by
  intro A Z s v w Q E ok zl ra rb h
  simp only [Rep] at ra rb
  obtain ⟨t, rfl⟩ := ra
  obtain ⟨u, rfl⟩ := rb
  exact PySem.P.eq_int (fin0 h zl (by simp [Rep]))
theorem CmpV.neI {a b : Int} : CmpV G n .NotEq (.int a) (.int b) (.bool (a != b)) := by
  intro A Z s v w Q E ok zl ra rb h
  simp only [Rep] at ra rb
  obtain ⟨t, rfl⟩ := ra
  obtain ⟨u, rfl⟩ := rb
  exact PySem.P.ne_int (fin0 h zl (by simp [Rep]))
theorem CmpV.ltI {a b : Int} : CmpV G n .Lt (.int a) (.int b) (.bool (decide (a < b))) := by
  intro A Z s v w Q E ok zl ra rb h
  simp only [Rep] at ra rb
  obtain ⟨t, rfl⟩ := ra
  obtain ⟨u, rfl⟩ := rb
  exact PySem.P.lt_int (fin0 h zl (by simp [Rep]))
theorem CmpV.leI {a b : Int} : CmpV G n .LtE (.int a) (.int b) (.bool (decide (a ≤ b))) := by
  intro A Z s v w Q E ok zl ra rb h
  simp only [Rep] at ra rb
  obtain ⟨t, rfl⟩ := ra
  obtain ⟨u, rfl⟩ := rb
  exact PySem.P.le_int (fin0 h zl (by simp [Rep]))
theorem CmpV.gtI {a b : Int} : CmpV G n .Gt (.int a) (.int b) (.bool (decide (b < a))) := by
  intro A Z s v w Q E ok zl ra rb h
  simp only [Rep] at ra rb
  obtain ⟨t, rfl⟩ := ra
  obtain ⟨u, rfl⟩ := rb
  exact PySem.P.gt_int (fin0 h zl (by simp [Rep]))
theorem CmpV.geI {a b : Int} : CmpV G n .GtE (.int a) (.int b) (.bool (decide (b ≤ a))) := by
  intro A Z s v w Q E ok zl ra rb h
  simp only [Rep] at ra rb
  obtain ⟨t, rfl⟩ := ra
  obtain ⟨u, rfl⟩ := rb
  exact PySem.P.ge_int (fin0 h zl (by simp [Rep]))

/-- identity where one side is None or a truth value -/
def pis : PV → PV → Bool
  | .none, .none => true
  | .bool a, .bool b => a == b
  | _, _ => false
def plainP : PV → Bool
  | .none => true
  | .bool _ => true
  | _ => false
theorem rep_is {Z : Addr → Prop} {h : Heap} {a b : PV} {v w : Value} (ra : Rep Z h a v) (rb : Rep Z h b w) (p : plainP b = true) : plainIs v w = true ∧ (v == w) = pis a b := by
  cases b with
  | none =>
    simp only [Rep] at rb
    subst rb
    cases a <;> simp only [Rep] at ra
    · subst ra; exact ⟨rfl, rfl⟩
    · subst ra; exact ⟨rfl, rfl⟩
    · obtain ⟨t, rfl⟩ := ra; exact ⟨rfl, rfl⟩
    · obtain ⟨t, rfl⟩ := ra; exact ⟨rfl, rfl⟩
    · obtain ⟨_, _, rfl, _⟩ := ra; exact ⟨rfl, rfl⟩
    · obtain ⟨_, _, rfl, _⟩ := ra; exact ⟨rfl, rfl⟩
    · obtain ⟨_, _, _, _, rfl, _⟩ := ra; exact ⟨rfl, rfl⟩
  | bool b =>
    simp only [Rep] at rb
    subst rb
    cases a <;> simp only [Rep] at ra
    · subst ra; exact ⟨rfl, rfl⟩
    · subst ra; exact ⟨rfl, by rename_i c; cases b <;> cases c <;> rfl⟩
    · obtain ⟨t, rfl⟩ := ra; exact ⟨rfl, rfl⟩
    · obtain ⟨t, rfl⟩ := ra; exact ⟨rfl, rfl⟩
    · obtain ⟨_, _, rfl, _⟩ := ra; exact ⟨rfl, rfl⟩
    · obtain ⟨_, _, rfl, _⟩ := ra; exact ⟨rfl, rfl⟩
    · obtain ⟨_, _, _, _, rfl, _⟩ := ra; exact ⟨rfl, rfl⟩
  | _ => simp [plainP] at p
theorem CmpV.is {a b : PV} (p : plainP b = true) : CmpV G n .Is a b (.bool (pis a b)) := by
  intro A Z s v w Q E ok zl ra rb h
  obtain ⟨h1, h2⟩ := rep_is ra rb p
  refine wpAny_is_plain h1 ?_
  rw [h2]
  exact fin0 h zl (by simp [Rep])
theorem CmpV.isNot {a b : PV} (p : plainP b = true) : CmpV G n .IsNot a b (.bool (!pis a b)) := by
  intro A Z s v w Q E ok zl ra rb h
  obtain ⟨h1, h2⟩ := rep_is ra rb p
  refine wpAny_isNot_plain h1 ?_
  rw [h2]
  exact fin0 h zl (by simp [Rep])

/-- sub stands in s -/
def prefixB : Tx → Tx → Bool
  | [], _ => true
  | _ :: _, [] => false
  | a :: r, b :: t => a == b && prefixB r t
def subIn (sub : Tx) : Tx → Bool
  | [] => prefixB sub []
  | x :: r => prefixB sub (x :: r) || subIn sub r

theorem prefixB_iff : ∀ (a b : Tx), prefixB a b = true ↔ b.take a.length = a
  | [], b => by simp [prefixB]
  | x :: r, [] => by simp [prefixB]
  | x :: r, y :: t => by
    simp only [prefixB, Bool.and_eq_true, beq_iff_eq, List.length_cons, List.take_succ_cons, List.cons.injEq]
    rw [prefixB_iff r t]
    exact and_congr_left fun _ => eq_comm
theorem prefixB_len : ∀ {a b : Tx}, prefixB a b = true → a.length ≤ b.length := by
  intro a b h
  have := (prefixB_iff a b).mp h
  have := congrArg List.length this
  rw [List.length_take] at this
  omega
theorem subIn_iff (sub : Tx) : ∀ x : Tx, subIn sub x = true ↔ ∃ i, i + sub.length ≤ x.length ∧ prefixB sub (x.drop i) = true
  | [] => by
    simp only [subIn, List.drop_nil, List.length_nil]
    constructor
    · intro h; exact ⟨0, by have := prefixB_len h; simpa using this, h⟩
    · rintro ⟨i, _, h⟩; exact h
  | x :: r => by
    simp only [subIn, Bool.or_eq_true, subIn_iff sub r]
    constructor
    · rintro (h | ⟨i, hi, h⟩)
      · exact ⟨0, by have := prefixB_len h; simpa using this, by simpa using h⟩
      · exact ⟨i + 1, by simp only [List.length_cons]; omega, by simpa using h⟩
    · rintro ⟨i, hi, h⟩
      cases i with
      | zero => exact .inl (by simpa using h)
      | succ i => exact .inr ⟨i, by simp only [List.length_cons] at hi; omega, by simpa using h⟩
theorem subAt_mkS (x y : Tx) (i : Nat) (h : i + y.length ≤ x.length) : Builtin.Str.subAt (mkS x) (mkS y) i = prefixB y (x.drop i) := by
  rw [StrLaws.subAt_eq, mkS_cps, mkS_cps, mkS_len, Bool.eq_iff_iff, prefixB_iff, beq_iff_eq]
theorem occ_subIn (x y : Tx) : (!(Builtin.Str.occurrences (mkS x) (mkS y) 0 (mkS x).length 1).isEmpty) = subIn y x := by
  rw [Bool.eq_iff_iff, StrLaws.found_iff, subIn_iff]
  constructor
  · rintro ⟨i, h1, h2⟩
    rw [mkS_len, mkS_len] at h1
    exact ⟨i, h1, by rw [← subAt_mkS _ _ _ h1]; exact h2⟩
  · rintro ⟨i, h1, h2⟩
    exact ⟨i, by rw [mkS_len, mkS_len]; exact h1, by rw [subAt_mkS _ _ _ h1]; exact h2⟩
theorem CmpV.inS {a b : Tx} : CmpV G n .In (.str a) (.str b) (.bool (subIn a b)) := by
  intro A Z s v w Q E ok zl ra rb h
  simp only [Rep] at ra rb
  obtain ⟨t, rfl⟩ := ra
  obtain ⟨u, rfl⟩ := rb
  refine PySem.P.in_str ?_
  rw [occ_subIn]
  exact fin0 h zl (by simp [Rep])
theorem CmpV.notInS {a b : Tx} : CmpV G n .NotIn (.str a) (.str b) (.bool (!subIn a b)) := by
  intro A Z s v w Q E ok zl ra rb h
  simp only [Rep] at ra rb
  obtain ⟨t, rfl⟩ := ra
  obtain ⟨u, rfl⟩ := rb
  refine PySem.P.notIn_str ?_
  rw [occ_subIn]
  exact fin0 h zl (by simp [Rep])

def sts (l : List Tx) : List PV := l.map .str
def its (l : List Int) : List PV := l.map .int
theorem reps_strs {Z : Addr → Prop} {h : Heap} : ∀ {l : List Tx} {vs : List Value}, Reps Z h (sts l) vs → StrsAre vs (l.map mkS)
  | [], vs, r => by simp only [sts, List.map_nil, Reps] at r; subst r; exact .nil
  | x :: l, vs, r => by
    simp only [sts, List.map_cons, Reps, Rep] at r
    obtain ⟨v, ws, rfl, ⟨t, rfl⟩, r2⟩ := r
    exact .cons _ _ (reps_strs r2)
theorem any_mkS (l : List Tx) (a : Tx) : (l.map mkS).any (· == mkS a) = l.contains a := by
  rw [Bool.eq_iff_iff, List.any_eq_true, List.contains_iff_mem]
  constructor
  · rintro ⟨y, hy, e⟩
    obtain ⟨c, hc, rfl⟩ := List.mem_map.mp hy
    exact mkS_inj (beq_iff_eq.mp e) ▸ hc
  · intro h
    exact ⟨mkS a, List.mem_map_of_mem h, beq_self_eq_true _⟩
theorem CmpV.inL {a : Tx} {l : List Tx} : CmpV G n .In (.str a) (.list (sts l)) (.bool (l.contains a)) := by
  intro A Z s v w Q E ok zl ra rb h
  simp only [Rep] at ra rb
  obtain ⟨t, rfl⟩ := ra
  obtain ⟨b, vs, rfl, _, hl, rs⟩ := rb
  refine PyProof.Rows.in_list_strs hl (reps_strs rs) ?_
  rw [any_mkS]
  exact fin0 h zl (by simp [Rep])
theorem CmpV.notInL {a : Tx} {l : List Tx} : CmpV G n .NotIn (.str a) (.list (sts l)) (.bool (!l.contains a)) := by
  intro A Z s v w Q E ok zl ra rb h
  simp only [Rep] at ra rb
  obtain ⟨t, rfl⟩ := ra
  obtain ⟨b, vs, rfl, _, hl, rs⟩ := rb
  refine PyProof.Rows.notin_list_strs hl (reps_strs rs) ?_
  rw [any_mkS]
  exact fin0 h zl (by simp [Rep])
end
end Mine
namespace Mine

def clip (d : Nat) (i : Option Int) (n : Nat) : Nat := match i with
  | none => d
  | some i => min (if i < 0 then i + n else i).toNat n
def slc {α : Type} (l : List α) (lo hi : Option Int) : List α := (l.drop (clip 0 lo l.length)).take (clip l.length hi l.length - clip 0 lo l.length)

theorem clip_le {d : Nat} {i : Option Int} {n : Nat} (h : d ≤ n) : clip d i n ≤ n := by
  cases i with
  | none => exact h
  | some i => exact Nat.min_le_right _ _
theorem clip_int (i : Int) (n d : Nat) : max (0 : Int) (min (if i < 0 then i + n else i) n) = ((clip d (some i) n : Nat) : Int) := by
  simp only [clip]
  split <;> omega
theorem sliceRange_one (a b : Nat) : sliceRange a b 1 = (List.range (b - a)).map (fun k => a + k) := by
  unfold sliceRange
  have e : (if ((1 : Int) > 0) then (if (a : Int) < b then ((b : Int) - a + 1 - 1) / 1 else 0) else (if (a : Int) > b then ((a : Int) - b - 1 - 1) / (-1) else 0)).toNat = b - a := by
    rw [if_pos (by decide)]
    split
    · rw [Int.ediv_one]; omega
    · show (0 : Int).toNat = b - a
      simp only [Int.toNat_zero]
      omega
  simp only [e]
  refine List.map_congr_left fun k _ => ?_
  omega
theorem seqIndex_spec {i : Int} {n j : Nat} (h : seqIndex? i n = some j) : -(n : Int) ≤ i ∧ i < n ∧ j = (if i < 0 then i + n else i).toNat := by
  unfold seqIndex? at h
  by_cases h0 : i < 0
  · simp only [h0, if_true] at h ⊢
    split at h
    · rename_i hh
      simp only [Bool.and_eq_true, decide_eq_true_eq] at hh
      cases h
      refine ⟨by omega, by omega, rfl⟩
    · cases h
  · simp only [h0, if_false] at h ⊢
    split at h
    · rename_i hh
      simp only [Bool.and_eq_true, decide_eq_true_eq] at hh
      cases h
      refine ⟨by omega, by omega, rfl⟩
    · cases h
theorem slc_strIdx {c : Tx} (lo hi : Option Int) : (Builtin.Str.strSliceIndices lo hi 1 c.length).filterMap (c[·]?) = slc c lo hi ∧ (Builtin.Str.strSliceIndices lo hi 1 c.length).length = (slc c lo hi).length := by
  have e : Builtin.Str.strSliceIndices lo hi 1 c.length = sliceRange (clip 0 lo c.length : Nat) (clip c.length hi c.length : Nat) 1 := by
    unfold Builtin.Str.strSliceIndices
    cases lo with
    | none => cases hi with
      | none => rfl
      | some j => rw [← clip_int j c.length c.length]; rfl
    | some i => cases hi with
      | none => rw [← clip_int i c.length 0]; rfl
      | some j => rw [← clip_int i c.length 0, ← clip_int j c.length c.length]; rfl
  rw [e, sliceRange_one]
  have h1 : clip 0 lo c.length ≤ c.length := clip_le (Nat.zero_le _)
  have h2 : clip c.length hi c.length ≤ c.length := clip_le (Nat.le_refl _)
  constructor
  · exact StrLaws.picks c _ _ (by omega)
  · simp only [slc, List.length_map, List.length_range, List.length_take, List.length_drop]
    omega
theorem slc_pick {vs : List Value} (lo hi : Option Int) : slicePick vs.toArray lo hi none = (slc vs lo hi).toArray := by
  unfold slicePick
  have e : sliceBounds lo hi none vs.toArray.size = (((clip 0 lo vs.length : Nat) : Int), ((clip vs.length hi vs.length : Nat) : Int), 1) := by
    unfold sliceBounds
    simp only [Option.getD_none, List.size_toArray, Prod.mk.injEq, and_true]
    constructor
    · cases lo with
      | none => simp [clip]
      | some i => rw [← clip_int i vs.length 0]; simp
    · cases hi with
      | none => simp [clip]
      | some i => rw [← clip_int i vs.length vs.length]; simp
  rw [e, sliceRange_one]
  have h1 : clip 0 lo vs.length ≤ vs.length := clip_le (Nat.zero_le _)
  have h2 : clip vs.length hi vs.length ≤ vs.length := clip_le (Nat.le_refl _)
  congr 1
  have := StrLaws.picks vs (clip vs.length hi vs.length - clip 0 lo vs.length) (clip 0 lo vs.length) (by omega)
  rw [slc, ← this]
  simp
theorem Reps.slc {Z : Addr → Prop} {h : Heap} {xs : List PV} {vs : List Value} (r : Reps Z h xs vs) (lo hi : Option Int) : Reps Z h (slc xs lo hi) (slc vs lo hi) := by
  unfold Mine.slc
  rw [r.length]
  exact (r.drop _).take _

def getI {α : Type} (l : List α) (i : Int) : Option α := (seqIndex? i l.length).bind (l[·]?)

def pint : PV → Option Int
  | .int i => some i
  | _ => none
/-- a part of a slice -/
structure EvP (G : Gc) (n : Nat) (sc : Scope) (σ : Loc) (e : Option Expr) (i : Option Int) : Prop where
  run : ∀ (F : Fi) (A : Around) (Z W : Addr → Prop) (s : Shared) (Q : Value → Shared → Prop) (E : Value → Shared → Prop), F.sc = sc → OkA n A → St G F Z W σ s →
    (∀ v s' Z' p, Ext0 s s' → ZG Z s Z' s' → v = partValue p → p.map (·.1) = i → Q v s') → wpAny (model G.prog G.w) A (evalPart e F.env) Q E s

section
variable {G : Gc} {n : Nat} {σ : Loc} {sc : Scope}

theorem EvP.no : EvP G n sc σ none none := ⟨fun F A Z W s Q E _ _ st h => wpAny_evalPart_none (h _ _ Z none (ExtG.refl ..) (ZG.refl st.zlt) rfl rfl)⟩
theorem EvP.at {e : Expr} {i : Int} (h1 : Ev G n sc σ e (.int i)) : EvP G n sc σ (some e) (some i) := ⟨fun F A Z W s Q E hsc ok st h =>
  wpAny_evalPart_some (h1.run F A Z W s _ _ hsc ok st fun v s' Z' e z r => by
    simp only [Rep] at r
    obtain ⟨t, rfl⟩ := r
    exact h _ _ _ (.some (i, t)) e z rfl rfl)⟩

theorem isPart_of (p : Option (Int × Tok)) : IsPart (partValue p) (p.map (·.1)) := by
  cases p with
  | none => exact .none
  | some q => exact .int _ _

theorem Ev.slcS {e : Expr} {lo hi : Option Expr} {c : Tx} {i j : Option Int} {p pos} (h1 : Ev G n sc σ e (.str c)) (h2 : EvP G n sc σ lo i) (h3 : EvP G n sc σ hi j) (hl : c.length ≤ 1000000) :
    Ev G n sc σ (.Subscript e (.Slice lo hi none p) pos) (.str (slc c i j)) := by
  refine ⟨fun F A Z W s Q E hsc ok st h => ?_⟩
  refine PyProof.Rows.Subscript_ (h1.run F A Z W s _ _ hsc ok st fun v s1 Z1 e1 z1 r1 => ?_)
  have st1 := st.ext e1 z1
  refine wpAny_Slice (h2.run F A Z1 W s1 _ _ hsc ok st1 fun vl s2 Z2 pl e2 z2 hvl hl' => ?_)
  have st2 := st1.ext e2 z2
  refine h3.run F A Z2 W s2 _ _ hsc ok st2 fun vu s3 Z3 pu e3 z3 hvu hu' => ?_
  have st3 := st2.ext e3 z3
  refine wpAny_evalPart_none ?_
  simp only [Rep] at r1
  obtain ⟨t, rfl⟩ := r1
  subst hvl hvu
  refine PyProof.Rows.tail_any (typeIs_str _ _ _) PySem.F.slot_str_getitem.lookup (wpAny_getItem_str_slice (l := pl) (u := pu) (st := Option.none) ⟨_, Heap.get?_push_size _ rfl, rfl, rfl⟩ rfl ?_) rfl
  have e13 := e1.trans' (e2.trans' e3)
  have z13 := z1.trans (z2.trans z3 e2) e1
  have q := slc_strIdx (c := c) i j
  have eq1 : slicePicked (mkS c) pl pu Option.none = Builtin.Str.strSliceIndices i j 1 c.length := by
    unfold slicePicked; rw [hl', hu', mkS_len]; rfl
  have fin : ∀ (v : Value) (tk : Nat), Rep Z3 s3.heap (.str (Mine.slc c i j)) v → Q v { s3 with heap := s3.heap.push { cls := .type "slice", data := .fields #[partValue pl, partValue pu, .none] }, toks := tk } := fun v tk rv =>
    h _ _ Z3 (e13.trans' (Ext0.push s3 _ tk)) (z13.trans (ZG.same z13.lt (Ext0.push s3 _ tk)) e13) (rv.ext (Ext0.push s3 _ tk) (ZG.same z13.lt (Ext0.push s3 _ tk)))
  unfold sliceMade
  rw [eq1]
  split
  · rename_i hh
    have hlen : (Builtin.Str.strSliceIndices i j 1 c.length).length = c.length := by
      have := (Bool.and_eq_true_iff.mp hh).2
      rw [mkS_len] at this
      exact beq_iff_eq.mp this
    have : Mine.slc c i j = c := by
      rw [q.2] at hlen
      unfold Mine.slc at hlen ⊢
      rw [List.length_take, List.length_drop] at hlen
      have h1 : clip 0 i c.length ≤ c.length := clip_le (Nat.zero_le _)
      have h2 : clip c.length j c.length ≤ c.length := clip_le (Nat.le_refl _)
      have ea : clip 0 i c.length = 0 := by omega
      rw [ea, List.drop_zero, List.take_of_length_le]
      omega
    refine fin _ s3.toks ?_
    rw [this]; simp [Rep]
  · have e2' : ((Builtin.Str.strSliceIndices i j 1 c.length).filterMap ((mkS c).cps[·]?)).toArray = (Mine.slc c i j).toArray := by
      rw [← q.1]; simp [mkS]
    show (⟨_⟩ : Str).length ≤ sizeLine ∧ _
    rw [e2']
    refine ⟨?_, fin _ _ (by simp [Rep, mkS])⟩
    show (Mine.slc c i j).toArray.size ≤ sizeLine
    rw [List.size_toArray, sizeLine_eq]
    unfold Mine.slc
    rw [List.length_take, List.length_drop]
    omega

theorem Ev.slcL {e : Expr} {lo hi : Option Expr} {xs : List PV} {i j : Option Int} {p pos} (h1 : Ev G n sc σ e (.list xs)) (h2 : EvP G n sc σ lo i) (h3 : EvP G n sc σ hi j) (hl : xs.length ≤ 1000000) :
    Ev G n sc σ (.Subscript e (.Slice lo hi none p) pos) (.list (slc xs i j)) := by
  refine ⟨fun F A Z W s Q E hsc ok st h => ?_⟩
  refine PyProof.Rows.Subscript_ (h1.run F A Z W s _ _ hsc ok st fun v s1 Z1 e1 z1 r1 => ?_)
  have st1 := st.ext e1 z1
  refine wpAny_Slice (h2.run F A Z1 W s1 _ _ hsc ok st1 fun vl s2 Z2 pl e2 z2 hvl hl' => ?_)
  have st2 := st1.ext e2 z2
  refine h3.run F A Z2 W s2 _ _ hsc ok st2 fun vu s3 Z3 pu e3 z3 hvu hu' => ?_
  have st3 := st2.ext e3 z3
  refine wpAny_evalPart_none ?_
  have r3 := (r1.ext e2 z2).ext e3 z3
  simp only [Rep] at r3
  obtain ⟨a, vs, rfl, za, hL, rs⟩ := r3
  subst hvl hvu
  have hL' := hL.push { cls := .type "slice", data := .fields #[partValue pl, partValue pu, .none] }
  refine PyProof.Rows.tail_any hL'.typeIs slot_list_getitem.lookup (wpAny_getItem_list_slice hL' (lo := i) (hi := j) (st := Option.none) ⟨_, Heap.get?_push_size _ rfl, rfl, rfl⟩ (hl' ▸ isPart_of pl) (hu' ▸ isPart_of pu) .none (by decide) ?_ ?_) rfl
  · rw [slc_pick]
    have e13 := e1.trans' (e2.trans' e3)
    have z13 := z1.trans (z2.trans z3 e2) e1
    have ep := Ext0.push s3 { cls := .type "slice", data := .fields #[partValue pl, partValue pu, .none] } s3.toks
    have zp : ZG Z3 s3 Z3 { s3 with heap := s3.heap.push { cls := .type "slice", data := .fields #[partValue pl, partValue pu, .none] } } := ZG.same z13.lt ep
    have ep2 := Ext0.push { s3 with heap := s3.heap.push { cls := .type "slice", data := .fields #[partValue pl, partValue pu, .none] } } { cls := .type "list", data := .seq (Mine.slc vs i j).toArray } s3.toks
    have zp2 := ZG.push (s := { s3 with heap := s3.heap.push { cls := .type "slice", data := .fields #[partValue pl, partValue pu, .none] } }) { cls := .type "list", data := .seq (Mine.slc vs i j).toArray } s3.toks zp.lt
    refine h _ _ _ (e13.trans' (ep.trans' ep2)) (z13.trans (zp.trans zp2 ep) e13) ?_
    simp only [Rep]
    exact ⟨_, _, rfl, .inr rfl, ⟨_, Heap.get?_push_size _ rfl, rfl, _, rfl⟩, ((rs.slc i j).ext ep zp).ext ep2 zp2⟩
  · rw [List.size_toArray, rs.length, sizeLine_eq]; omega

theorem getI_reps {Z : Addr → Prop} {h : Heap} {xs : List PV} {vs : List Value} {i : Int} {x : PV} (r : Reps Z h xs vs) (hx : getI xs i = some x) : ∃ j v, seqIndex? i vs.length = some j ∧ vs[j]? = some v ∧ Rep Z h x v := by
  unfold getI at hx
  obtain ⟨j, hj, hx⟩ := Option.bind_eq_some_iff.mp hx
  obtain ⟨v, hv, rv⟩ := r.get hx
  exact ⟨j, v, by rw [r.length]; exact hj, hv, rv⟩

theorem Ev.idxS {e f : Expr} {c : Tx} {i : Int} {x : Nat} {pos} (h1 : Ev G n sc σ e (.str c)) (h2 : Ev G n sc σ f (.int i)) (hx : getI c i = some x) (hl : c.length ≤ 1000000)
    (hs : ∀ o i, subscripted f false o i = operate [o, i] (getItem o i)) : Ev G n sc σ (.Subscript e f pos) (.str [x]) := by
  refine ⟨fun F A Z W s Q E hsc ok st h => ?_⟩
  refine PyProof.Rows.Subscript_ (h1.run F A Z W s _ _ hsc ok st fun v s1 Z1 e1 z1 r1 => ?_)
  have st1 := st.ext e1 z1
  refine h2.run F A Z1 W s1 _ _ hsc ok st1 fun w s2 Z2 e2 z2 r2 => ?_
  simp only [Rep] at r1 r2
  obtain ⟨t, rfl⟩ := r1
  obtain ⟨u, rfl⟩ := r2
  have hc : Txt.charAt (mkS c) i = some x := by
    unfold Txt.charAt; rw [mkS_len]
    unfold getI at hx
    rw [← hx]; congr 1
    funext k
    simp [mkS]
  have hb : -(c.length : Int) ≤ i ∧ i < c.length := by
    obtain ⟨j, hj, _⟩ := Option.bind_eq_some_iff.mp hx
    have := seqIndex_spec hj
    exact ⟨this.1, this.2.1⟩
  have hr : fitsSsize i = true := by
    unfold fitsSsize
    simp only [Bool.not_eq_true', Bool.or_eq_false_iff, decide_eq_false_iff_not]
    omega
  refine PyProof.Rows.tail_any (typeIs_str _ _ _) PySem.F.slot_str_getitem.lookup (SB.getItem hr (by rw [hc]; rfl) ?_) (hs _ _)
  have e12 := e1.trans' e2
  have z12 := z1.trans z2 e1
  have ex : Txt.item (mkS c) i = mkS [x] := by unfold Txt.item; rw [hc]; rfl
  rw [ex]
  exact h _ _ Z2 (e12.trans' (Ext0.tok s2 _)) (z12.trans (ZG.same z12.lt (Ext0.tok _ _)) e12) (by simp [Rep])

theorem Ev.idxL {e f : Expr} {xs : List PV} {i : Int} {x : PV} {pos} (h1 : Ev G n sc σ e (.list xs)) (h2 : Ev G n sc σ f (.int i)) (hx : getI xs i = some x) (hl : xs.length ≤ 1000000)
    (hs : ∀ o i, subscripted f false o i = operate [o, i] (getItem o i)) : Ev G n sc σ (.Subscript e f pos) x := by
  refine ⟨fun F A Z W s Q E hsc ok st h => ?_⟩
  refine PyProof.Rows.Subscript_ (h1.run F A Z W s _ _ hsc ok st fun v s1 Z1 e1 z1 r1 => ?_)
  have st1 := st.ext e1 z1
  refine h2.run F A Z1 W s1 _ _ hsc ok st1 fun w s2 Z2 e2 z2 r2 => ?_
  have r1 := r1.ext e2 z2
  simp only [Rep] at r1 r2
  obtain ⟨u, rfl⟩ := r2
  obtain ⟨a, vs, rfl, za, hL, rs⟩ := r1
  obtain ⟨j, v, hj, hv, rv⟩ := getI_reps rs hx
  have e12 := e1.trans' e2
  have z12 := z1.trans z2 e1
  have hlen : vs.length ≤ 1000000 := by rw [rs.length]; exact hl
  refine PyProof.Rows.tail_any hL.typeIs slot_list_getitem.lookup ?_ (hs _ _)
  obtain ⟨b1, b2, rfl⟩ := seqIndex_spec hj
  by_cases h0 : i < 0
  · rw [if_pos h0] at hv
    exact wpAny_getItem_list_neg hL h0 (by rw [List.size_toArray]; omega) (by omega) (by simpa using hv) (h _ _ Z2 e12 z12 rv)
  · rw [if_neg h0] at hv
    exact wpAny_getItem_list hL (by omega) (by omega) (by simpa using hv) (h _ _ Z2 e12 z12 rv)

theorem Ev.idxT {e f : Expr} {xs : List PV} {i : Int} {x : PV} {pos} (h1 : Ev G n sc σ e (.tup xs)) (h2 : Ev G n sc σ f (.int i)) (hx : getI xs i = some x) (hl : xs.length ≤ 1000000)
    (hs : ∀ o i, subscripted f false o i = operate [o, i] (getItem o i)) : Ev G n sc σ (.Subscript e f pos) x := by
  refine ⟨fun F A Z W s Q E hsc ok st h => ?_⟩
  refine PyProof.Rows.Subscript_ (h1.run F A Z W s _ _ hsc ok st fun v s1 Z1 e1 z1 r1 => ?_)
  have st1 := st.ext e1 z1
  refine h2.run F A Z1 W s1 _ _ hsc ok st1 fun w s2 Z2 e2 z2 r2 => ?_
  have r1 := r1.ext e2 z2
  simp only [Rep] at r1 r2
  obtain ⟨u, rfl⟩ := r2
  obtain ⟨a, vs, rfl, za, hL, rs⟩ := r1
  obtain ⟨j, v, hj, hv, rv⟩ := getI_reps rs hx
  have e12 := e1.trans' e2
  have z12 := z1.trans z2 e1
  have hlen : vs.length ≤ 1000000 := by rw [rs.length]; exact hl
  have hb : -(vs.length : Int) ≤ i ∧ i < vs.length := by
    have := seqIndex_spec hj
    exact ⟨this.1, this.2.1⟩
  exact PyProof.Rows.item_tupleT hL (by omega) (by omega) hj hv (h _ _ Z2 e12 z12 rv) (hs _ _)

/-! composite expressions -/
theorem Ev.bin {l r : Expr} {op : Operator} {a b c : PV} {pos} (h1 : Ev G n sc σ l a) (h2 : Ev G n sc σ r b) (h3 : BinV G n op a b c) : Ev G n sc σ (.BinOp l op r pos) c := by
  refine ⟨fun F A Z W s Q E hsc ok st h => ?_⟩
  refine wpAny_BinOp (h1.run F A Z W s _ _ hsc ok st fun v s1 Z1 e1 z1 r1 => ?_)
  have st1 := st.ext e1 z1
  refine h2.run F A Z1 W s1 _ _ hsc ok st1 fun w s2 Z2 e2 z2 r2 => ?_
  refine h3 A Z2 s2 v w _ _ ok z2.lt (r1.ext e2 z2) r2 fun x s3 Z3 e3 z3 r3 => ?_
  exact h _ _ Z3 (e1.trans' (e2.trans' e3)) (z1.trans (z2.trans z3 e2) e1) r3
theorem Ev.cmp {l r : Expr} {op : CmpOp} {a b c : PV} {pos} (h1 : Ev G n sc σ l a) (h2 : Ev G n sc σ r b) (h3 : CmpV G n op a b c) (hm : behindInMarks op r = false) : Ev G n sc σ (.Compare l [op] [r] pos) c := by
  refine ⟨fun F A Z W s Q E hsc ok st h => ?_⟩
  refine wpAny_Compare1 (h1.run F A Z W s _ _ hsc ok st fun v s1 Z1 e1 z1 r1 => ?_) hm
  have st1 := st.ext e1 z1
  refine h2.run F A Z1 W s1 _ _ hsc ok st1 fun w s2 Z2 e2 z2 r2 => ?_
  refine h3 A Z2 s2 v w _ _ ok z2.lt (r1.ext e2 z2) r2 fun x s3 Z3 e3 z3 r3 => ?_
  exact h _ _ Z3 (e1.trans' (e2.trans' e3)) (z1.trans (z2.trans z3 e2) e1) r3
theorem EvT.cmp {l r : Expr} {op : CmpOp} {a b : PV} {c : Bool} {pos} (h1 : Ev G n sc σ l a) (h2 : Ev G n sc σ r b) (h3 : CmpV G n op a b (.bool c)) (hm : behindInMarks op r = false) : EvT G n sc σ (.Compare l [op] [r] pos) c := by
  refine ⟨fun F A Z W s Q E hsc ok st h => ?_⟩
  refine wpAny_isTrue_Compare1 (h1.run F A Z W s _ _ hsc ok st fun v s1 Z1 e1 z1 r1 => ?_) hm
  have st1 := st.ext e1 z1
  refine h2.run F A Z1 W s1 _ _ hsc ok st1 fun w s2 Z2 e2 z2 r2 => ?_
  refine h3 A Z2 s2 v w _ _ ok z2.lt (r1.ext e2 z2) r2 fun x s3 Z3 e3 z3 r3 => ?_
  simp only [Rep] at r3
  subst r3
  exact wpAny_truthy_bool (h _ Z3 (e1.trans' (e2.trans' e3)) (z1.trans (z2.trans z3 e2) e1))
theorem EvT.not {e : Expr} {b : Bool} {pos} (h1 : EvT G n sc σ e b) : EvT G n sc σ (.UnaryOp .Not e pos) (!b) := by
  refine ⟨fun F A Z W s Q E hsc ok st h => ?_⟩
  exact wpAny_isTrue_Not (h1.run F A Z W s _ _ hsc ok st fun s' Z' e z => h _ Z' e z)
theorem Ev.neg {e : Expr} {i : Int} {pos} (h1 : Ev G n sc σ e (.int i)) : Ev G n sc σ (.UnaryOp .USub e pos) (.int (-i)) := by
  refine ⟨fun F A Z W s Q E hsc ok st h => ?_⟩
  refine wpAny_UnaryOp (h1.run F A Z W s _ _ hsc ok st fun v s1 Z1 e1 z1 r1 => ?_)
  simp only [Rep] at r1
  obtain ⟨t, rfl⟩ := r1
  exact PySem.P.neg_int (h _ _ Z1 (e1.trans' (Ext0.tok s1 _)) (z1.trans (ZG.same z1.lt (Ext0.tok _ _)) e1) (by simp [Rep]))
theorem Ev.ite {t a b : Expr} {c : Bool} {x : PV} {pos} (h1 : EvT G n sc σ t c) (h2 : c = true → Ev G n sc σ a x) (h3 : c = false → Ev G n sc σ b x) : Ev G n sc σ (.IfExp t a b pos) x := by
  refine ⟨fun F A Z W s Q E hsc ok st h => ?_⟩
  refine wpAny_IfExp (h1.run F A Z W s _ _ hsc ok st fun s1 Z1 e1 z1 => ?_)
  have st1 := st.ext e1 z1
  cases c with
  | true => exact (h2 rfl).run F A Z1 W s1 _ _ hsc ok st1 fun v s2 Z2 e2 z2 r2 => h _ _ Z2 (e1.trans' e2) (z1.trans z2 e1) r2
  | false => exact (h3 rfl).run F A Z1 W s1 _ _ hsc ok st1 fun v s2 Z2 e2 z2 r2 => h _ _ Z2 (e1.trans' e2) (z1.trans z2 e1) r2

/-- a list of tests -/
structure EvA (G : Gc) (n : Nat) (sc : Scope) (σ : Loc) (op : BoolOp) (es : List Expr) (b : Bool) : Prop where
  run : ∀ (F : Fi) (A : Around) (Z W : Addr → Prop) (s : Shared) (Q : Bool → Shared → Prop) (E : Value → Shared → Prop), F.sc = sc → OkA n A → St G F Z W σ s →
    (∀ s' Z', Ext0 s s' → ZG Z s Z' s' → Q b s') → wpAny (model G.prog G.w) A (allTrue op es F.env) Q E s
theorem EvA.and0 : EvA G n sc σ .And [] true := ⟨fun F A Z W s Q E _ _ st h => wpAny_allTrue_And_nil (h _ Z (ExtG.refl ..) (ZG.refl st.zlt))⟩
theorem EvA.or0 : EvA G n sc σ .Or [] false := ⟨fun F A Z W s Q E _ _ st h => wpAny_allTrue_Or_nil (h _ Z (ExtG.refl ..) (ZG.refl st.zlt))⟩
theorem EvA.and {e : Expr} {es : List Expr} {a b : Bool} (h1 : EvT G n sc σ e a) (h2 : a = true → EvA G n sc σ .And es b) : EvA G n sc σ .And (e :: es) (a && b) := by
  refine ⟨fun F A Z W s Q E hsc ok st h => ?_⟩
  refine wpAny_allTrue_And_cons (h1.run F A Z W s _ _ hsc ok st fun s1 Z1 e1 z1 => ?_)
  cases a with
  | false => exact h _ Z1 e1 z1
  | true => exact (h2 rfl).run F A Z1 W s1 _ _ hsc ok (st.ext e1 z1) fun s2 Z2 e2 z2 => h _ Z2 (e1.trans' e2) (z1.trans z2 e1)
theorem EvA.or {e : Expr} {es : List Expr} {a b : Bool} (h1 : EvT G n sc σ e a) (h2 : a = false → EvA G n sc σ .Or es b) : EvA G n sc σ .Or (e :: es) (a || b) := by
  refine ⟨fun F A Z W s Q E hsc ok st h => ?_⟩
  refine wpAny_allTrue_Or_cons (h1.run F A Z W s _ _ hsc ok st fun s1 Z1 e1 z1 => ?_)
  cases a with
  | true => exact h _ Z1 e1 z1
  | false => exact (h2 rfl).run F A Z1 W s1 _ _ hsc ok (st.ext e1 z1) fun s2 Z2 e2 z2 => h _ Z2 (e1.trans' e2) (z1.trans z2 e1)
theorem EvT.bools {op : BoolOp} {es : List Expr} {b : Bool} {pos} (h1 : EvA G n sc σ op es b) : EvT G n sc σ (.BoolOp op es pos) b :=
  ⟨fun F A Z W s Q E hsc ok st h => wpAny_isTrue_BoolOp (h1.run F A Z W s _ _ hsc ok st h)⟩

def pTrue : PV → Option Bool
  | .none => some false
  | .bool b => some b
  | .int i => some (i != 0)
  | .str c => some (!c.isEmpty)
  | .list xs => some (!xs.isEmpty)
  | _ => none
theorem EvT.val {e : Expr} {x : PV} {b : Bool} (h1 : Ev G n sc σ e x) (hb : pTrue x = some b) (hl : ∀ c, x = .str c → c.length ≤ 1000000) (hl2 : ∀ c, x = .list c → c.length ≤ 1000000)
    (he : ∀ env, isTrue e env (eval e env) = (do let v ← eval e env; standAt e.pos; holding [v] (truthy v))) : EvT G n sc σ e b := by
  refine ⟨fun F A Z W s Q E hsc ok st h => ?_⟩
  refine wpAny_isTrue_value (h1.run F A Z W s _ _ hsc ok st fun v s1 Z1 e1 z1 r1 => ?_) (he _)
  have fin : ∀ tk, Q b { s1 with toks := tk } := fun tk => h _ Z1 (e1.trans' (Ext0.tok s1 tk)) (z1.trans (ZG.same z1.lt (Ext0.tok _ _)) e1)
  cases x with
  | none =>
    simp only [Rep] at r1; subst r1; cases hb
    exact fun _ _ _ => fin s1.toks
  | bool c => simp only [Rep] at r1; subst r1; cases hb; exact wpAny_truthy_bool (fin s1.toks)
  | int i => simp only [Rep] at r1; obtain ⟨t, rfl⟩ := r1; cases hb; exact PySem.P.truthy_int (fin s1.toks)
  | str c =>
    simp only [Rep] at r1; obtain ⟨t, rfl⟩ := r1; cases hb
    have := hl c rfl
    refine PyProof.Rows.SBL.truthy (by rw [mkS_len]; omega) ?_
    have e : (((mkS c).length : Int) != 0) = !c.isEmpty := by
      rw [mkS_len]; cases c <;> simp <;> omega
    rw [e]; exact fin _
  | list xs =>
    simp only [Rep] at r1; obtain ⟨a, vs, rfl, za, hL, rs⟩ := r1; cases hb
    have := hl2 xs rfl
    have hlen := rs.length
    refine wpAny_truthy_list hL (by rw [List.size_toArray]; omega) ?_
    have e : (!vs.toArray.isEmpty) = !xs.isEmpty := by
      cases xs <;> cases vs <;> simp at hlen ⊢
    rw [e]; exact fin _
  | _ => cases hb
end
end Mine
namespace Mine

def usedB : List Str := ["len", "range", "chr", "ord", "list", "isinstance", "bool", "min", "max", "enumerate", "ValueError"]

/-- the call's ground: the top's part stands -/
structure Bs (G : Gc) (s : Shared) : Prop where
  base : ∀ b o, G.base.get? b = some o → s.heap.get? b = some o
  bare : AllBare s.gens
theorem Bs.ext {G : Gc} {s s' : Shared} (x : Bs G s) (e : Ext0 s s') : Bs G s' := ⟨fun b o h => e.keep' b o (x.base b o h), e.bare x.bare⟩
theorem St.bs {G : Gc} {F : Fi} {Z W : Addr → Prop} {σ : Loc} {s : Shared} (x : St G F Z W σ s) : Bs G s :=
  ⟨x.base, x.bare⟩

def CallV (G : Gc) (n : Nat) (f : Value) (xs : List PV) (c : PV) : Prop :=
  ∀ (A : Around) (Z : Addr → Prop) (s : Shared) (vs : List Value) (Q : Value → Shared → Prop) (E : Value → Shared → Prop), OkA n A → Bs G s → (Liv Z s.heap) →
    Reps Z s.heap xs vs → (∀ r s' Z', Ext0 s s' → ZG Z s Z' s' → Rep Z' s'.heap c r → Q r s') → wpAny (model G.prog G.w) A (call f vs) Q E s

def NoB (G : Gc) : Prop := ∀ x ∈ usedB, G.mg x = none

section
variable {G : Gc} {n : Nat} {σ : Loc} {sc : Scope}

theorem evBuiltin {x : Str} {pos} {v : Value} (hk : sc.names.lookup x = some .globalImplicit) (nb : NoB G) (hx : x ∈ usedB) (hb : bootBuiltins x = some v) (hn : x ≠ "__name__") (hd : (x == ("__debug__" : Str)) = false)
    {F : Fi} {A : Around} {Z W : Addr → Prop} {s : Shared} {Q : Value → Shared → Prop} {E : Value → Shared → Prop} (hsc : F.sc = sc) (st : St G F Z W σ s) (h : Q v s) : wpAny (model G.prog G.w) A (eval (.Name x pos) F.env) Q E s :=
  Calls.Name_function_global (env := F.env) st.kind (by show F.sc.names.lookup x = _; rw [hsc]; exact hk)
    (Calls.loadGlobal_builtin (env := F.env) (G.top.g.keeps st.base) (nb x hx) (G.top.b.keeps st.base) ((G.top.builtins x hn).trans hb) h) hd
theorem evGlobal {x : Str} {pos} {v : Value} (hk : sc.names.lookup x = some .globalImplicit) (hv : G.mg x = some v) (hd : (x == ("__debug__" : Str)) = false)
    {F : Fi} {A : Around} {Z W : Addr → Prop} {s : Shared} {Q : Value → Shared → Prop} {E : Value → Shared → Prop} (hsc : F.sc = sc) (st : St G F Z W σ s) (h : Q v s) : wpAny (model G.prog G.w) A (eval (.Name x pos) F.env) Q E s :=
  Calls.Name_function_global (env := F.env) st.kind (by show F.sc.names.lookup x = _; rw [hsc]; exact hk)
    (Calls.loadGlobal_global (env := F.env) (G.top.g.keeps st.base) hv h) hd

theorem Ev.callB {x : Str} {id : String} {e : Expr} {es : List Expr} {xs : List PV} {c : PV} {p pos : Pos} (nb : NoB G) (hb : bootBuiltins x = some (.builtin id)) (hx : x ∈ usedB) (hn : x ≠ "__name__") (hd : (x == ("__debug__" : Str)) = false)
    (hk : sc.names.lookup x = some .globalImplicit) (h1 : EvL G n sc σ (e :: es) xs) (h2 : CallV G n (.builtin id) xs c)
    (he : ∀ env pos, backTo pos (starEach (e :: es) env) = (false, eval e env) :: backTo pos (starEach es env)) (hs : ∀ env pos, (backTo pos (starEach (e :: es) env)).any (·.1) = false) :
    Ev G n sc σ (.Call (.Name x p) (e :: es) [] pos) c := by
  refine ⟨fun F A Z W s Q E hsc ok st h => ?_⟩
  refine wpAny_Call_NameR (evBuiltin hk nb hx hb hn hd hsc st ?_)
  refine Calls.callWith_builtin (hs _ _) ?_
  rw [he]
  refine Calls.evalArgs_plain ?_
  rw [← he]
  refine h1.run F A Z W s _ _ pos hsc ok st fun vs s1 Z1 e1 z1 r1 => ?_
  exact h2 A Z1 s1 vs _ _ ok (st.bs.ext e1) z1.lt r1 fun r s2 Z2 e2 z2 r2 => h _ _ Z2 (e1.trans' e2) (z1.trans z2 e1) r2
theorem Ev.callT {x : Str} {T : String} {e : Expr} {es : List Expr} {xs : List PV} {c : PV} {p pos : Pos} (nb : NoB G) (hb : bootBuiltins x = some (.type T)) (hx : x ∈ usedB) (hn : x ≠ "__name__") (hd : (x == ("__debug__" : Str)) = false)
    (hk : sc.names.lookup x = some .globalImplicit) (h1 : EvL G n sc σ (e :: es) xs) (h2 : CallV G n (.type T) xs c)
    (he : ∀ env pos, backTo pos (starEach (e :: es) env) = (false, eval e env) :: backTo pos (starEach es env)) (hs : ∀ env pos, (backTo pos (starEach (e :: es) env)).any (·.1) = false) :
    Ev G n sc σ (.Call (.Name x p) (e :: es) [] pos) c := by
  refine ⟨fun F A Z W s Q E hsc ok st h => ?_⟩
  refine wpAny_Call_NameR (evBuiltin hk nb hx hb hn hd hsc st ?_)
  refine PyProof.Rows.callWith_type (hs _ _) ?_
  rw [he]
  refine Calls.evalArgs_plain ?_
  rw [← he]
  refine h1.run F A Z W s _ _ pos hsc ok st fun vs s1 Z1 e1 z1 r1 => ?_
  exact h2 A Z1 s1 vs _ _ ok (st.bs.ext e1) z1.lt r1 fun r s2 Z2 e2 z2 r2 => h _ _ Z2 (e1.trans' e2) (z1.trans z2 e1) r2

/-- a def of the text -/
def Fn (G : Gc) (n : Nat) (name : Str) (xs : List PV) (c : PV) : Prop := ∀ a, G.mg name = some (.ref a) → CallV G n (.ref a) xs c

theorem Ev.callF {x : Str} {d : DefRec} {e : Expr} {es : List Expr} {xs : List PV} {c : PV} {p pos : Pos} (hd : (x == ("__debug__" : Str)) = false)
    (hk : sc.names.lookup x = some .globalImplicit) (h1 : EvL G n sc σ (e :: es) xs) (hm : d ∈ recsOf G.p) (hx : d.name = x) (h2 : Fn G n x xs c)
    (he : ∀ env pos, backTo pos (starEach (e :: es) env) = (false, eval e env) :: backTo pos (starEach es env)) :
    Ev G n sc σ (.Call (.Name x p) (e :: es) [] pos) c := by
  refine ⟨fun F A Z W s Q E hsc ok st h => ?_⟩
  obtain ⟨a, o, pm, code, doc, ha, ho, hdat, hcd⟩ := G.top.fn d hm
  rw [hx] at ha
  refine wpAny_Call_NameR (evGlobal hk ha hd hsc st ?_)
  refine Calls.callWith_function (o := o) (fd := Calls.docDef d.name d.params d.body d.scope pm code doc) ?_
  rw [he]
  refine Calls.evalArgs_plain ?_
  rw [← he]
  refine h1.run F A Z W s _ _ pos hsc ok st fun vs s1 Z1 e1 z1 r1 => ?_
  refine ⟨⟨e1.keep' _ _ (st.base _ _ ho), hdat⟩, ?_⟩
  exact h2 a ha A Z1 s1 vs _ _ ok (st.bs.ext e1) z1.lt r1 fun r s2 Z2 e2 z2 r2 => h _ _ Z2 (e1.trans' e2) (z1.trans z2 e1) r2

/-- a constant of the text -/
theorem Ev.const {x : Str} {d : PyData} {pv : PV} {pos} (hk : sc.names.lookup x = some .globalImplicit) (hd : (x == ("__debug__" : Str)) = false) (hv : valOf G.p x = some d)
    (hr : ∀ v, (∀ h' : Heap, Reads h' v d []) → ∀ Z h, Rep Z h pv v) : Ev G n sc σ (.Name x pos) pv := by
  refine ⟨fun F A Z W s Q E hsc ok st h => ?_⟩
  obtain ⟨v, hm, hr'⟩ := G.top.const x d hv
  exact evGlobal hk hm hd hsc st (h v s Z (ExtG.refl ..) (ZG.refl st.zlt) (hr v hr' Z s.heap))
theorem reads_int {v : Value} {i : Int} (h : ∀ h' : Heap, Reads h' v (.int i) []) (Z : Addr → Prop) (hp : Heap) : Rep Z hp (.int i) v := by
  have := h hp
  cases this with
  | int i t => simp [Rep]
theorem reads_str {v : Value} {x : Str} {c : Tx} (hx : x = mkS c) (h : ∀ h' : Heap, Reads h' v (.str x) []) (Z : Addr → Prop) (hp : Heap) : Rep Z hp (.str c) v := by
  have := h hp
  cases this with
  | str x t => simp [Rep, hx]

/-! built-in calls -/
theorem CallV.lenS {c : Tx} (hl : c.length ≤ 1000000) : CallV G n (.builtin "len") [.str c] (.int c.length) := by
  intro A Z s vs Q E ok bs zl r h
  simp only [Reps, Rep] at r
  obtain ⟨v, ws, rfl, ⟨t, rfl⟩, rfl⟩ := r
  refine PySem.P.len_str (by rw [mkS_len]; omega) ?_
  rw [mkS_len]
  exact finT h zl (by simp [Rep])
theorem CallV.lenL {xs : List PV} (hl : xs.length ≤ 1000000) : CallV G n (.builtin "len") [.list xs] (.int xs.length) := by
  intro A Z s vs Q E ok bs zl r h
  simp only [Reps, Rep] at r
  obtain ⟨v, ws, rfl, ⟨a, us, rfl, za, hL, rs⟩, rfl⟩ := r
  have := rs.length
  refine PyProof.Rows.len_list hL (by rw [List.size_toArray]; omega) ?_
  rw [List.size_toArray, this]
  exact finT h zl (by simp [Rep])
theorem CallV.chr {i : Int} (h0 : 0 ≤ i) (h1 : i ≤ 1114111) : CallV G n (.builtin "chr") [.int i] (.str [i.toNat]) := by
  intro A Z s vs Q E ok bs zl r h
  simp only [Reps, Rep] at r
  obtain ⟨v, ws, rfl, ⟨t, rfl⟩, rfl⟩ := r
  exact PyProof.Rows.chr_of_range h0 h1 (finT h zl (by simp [Rep, mkS]))
theorem CallV.ord {x : Nat} : CallV G n (.builtin "ord") [.str [x]] (.int x) := by
  intro A Z s vs Q E ok bs zl r h
  simp only [Reps, Rep] at r
  obtain ⟨v, ws, rfl, ⟨t, rfl⟩, rfl⟩ := r
  exact PySem.P.ord_of_char (finT h zl (by simp [Rep]))

/-- a new list at the heap's end -/
theorem finL {Z : Addr → Prop} {s : Shared} {xs : List PV} {vs : List Value} {h' : Heap} {tk c' : Nat} {Q : Value → Shared → Prop} (h : ∀ r s' Z', Ext0 s s' → ZG Z s Z' s' → Rep Z' s'.heap (.list xs) r → Q r s')
    (zl : Liv Z s.heap) (hk : ∀ b o, s.heap.get? b = some o → h'.get? b = some o) (hD : h'.get? s.heap.objs.size = some { cls := .type "list", dict := none, data := .seq vs.toArray c', slots := #[] })
    (r : Reps Z h' xs vs) : Q (.ref s.heap.objs.size) { s with heap := h', toks := tk } := by
  refine h _ _ (fun b => Z b ∨ b = s.heap.objs.size) (Ext0.heap hk) (ZG.one zl (Ext0.heap (tk := tk) hk) (none_size _) hD) ?_
  simp only [Rep]
  exact ⟨_, vs, rfl, .inr rfl, ⟨_, hD, rfl, _, rfl⟩, r.mono (fun _ z => .inl z) fun _ _ _ e => e⟩

theorem CallV.listL {xs : List PV} (hl : xs.length ≤ 1000000) : CallV G n (.type "list") [.list xs] (.list xs) := by
  intro A Z s vs Q E ok bs zl r h
  simp only [Reps, Rep] at r
  obtain ⟨v, ws, rfl, ⟨a, us, rfl, za, ⟨o, ho, hc, m, hd⟩, rs⟩, rfl⟩ := r
  have := rs.length
  exact call_list_seq (hsz := by rw [List.size_toArray, sizeLine_eq]; omega) a (.inl rfl) ho hc hd fun h' c' hk hD => finL (tk := s.toks) h zl hk hD (rs.mono (fun _ z => z) fun b o _ e => hk b o e)

def rangeL (lo hi st : Int) : List PV := (List.range (Builtin.Range.rangeSize lo hi st).toNat).map fun (k : Nat) => .int (lo + (k : Int) * st)

theorem CallV.range1 {i : Int} : CallV G n (.type "range") [.int i] (.rng 0 i 1) := by
  intro A Z s vs Q E ok bs zl r h
  simp only [Reps, Rep] at r
  obtain ⟨v, ws, rfl, ⟨t, rfl⟩, rfl⟩ := r
  refine call_range_1 (h _ _ _ (Ext0.push ..) (ZG.push _ _ zl) ?_)
  simp only [Rep]
  exact ⟨_, _, _, _, rfl, .inr rfl, IsRange.new ..⟩
theorem CallV.range2 {i j : Int} : CallV G n (.type "range") [.int i, .int j] (.rng i j 1) := by
  intro A Z s vs Q E ok bs zl r h
  simp only [Reps, Rep] at r
  obtain ⟨v, ws, rfl, ⟨t, rfl⟩, w, us, rfl, ⟨u, rfl⟩, rfl⟩ := r
  refine call_range_2 (h _ _ _ (Ext0.push ..) (ZG.push _ _ zl) ?_)
  simp only [Rep]
  exact ⟨_, _, _, _, rfl, .inr rfl, IsRange.new ..⟩
theorem CallV.range3 {i j k : Int} (hk : k ≠ 0) (hp : Builtin.divisionGoesByPylong (j - i) k = false) : CallV G n (.type "range") [.int i, .int j, .int k] (.rng i j k) := by
  intro A Z s vs Q E ok bs zl r h
  simp only [Reps, Rep] at r
  obtain ⟨v, ws, rfl, ⟨t, rfl⟩, w, us, rfl, ⟨u, rfl⟩, x, ys, rfl, ⟨y, rfl⟩, rfl⟩ := r
  refine call_range_3 hk (h _ _ _ (Ext0.push ..) (ZG.push _ _ zl) ?_) (.inl hp)
  simp only [Rep]
  exact ⟨_, _, _, _, rfl, .inr rfl, IsRange.new ..⟩
theorem CallV.max2 {i j : Int} : CallV G n (.builtin "max") [.int i, .int j] (.int (max i j)) := by
  intro A Z s vs Q E ok bs zl r h
  simp only [Reps, Rep] at r
  obtain ⟨v, ws, rfl, ⟨t, rfl⟩, w, us, rfl, ⟨u, rfl⟩, rfl⟩ := r
  refine max_two_ints ok.1 fun h' tk hk => ?_
  refine h _ _ Z (Ext0.heap hk) (ZG.same zl (Ext0.heap (tk := tk) hk)) ?_
  by_cases q : j > i
  · rw [if_pos q]; simp only [Rep]; exact ⟨u, by rw [Int.max_eq_right (by omega)]⟩
  · rw [if_neg q]; simp only [Rep]; exact ⟨t, by rw [Int.max_eq_left (by omega)]⟩
theorem Ev.isBool {e : Expr} {i : Int} {x y : Str} {p q pos : Pos} (nb : NoB G) (hx : x = ("isinstance" : Str)) (hy : y = ("bool" : Str))
    (hk : sc.names.lookup x = some .globalImplicit) (hk' : sc.names.lookup y = some .globalImplicit) (h1 : Ev G n sc σ e (.int i))
    (he : ∀ env pos, backTo pos (starEach [e, .Name y q] env) = [(false, eval e env), (false, eval (.Name y q) env)]) :
    Ev G n sc σ (.Call (.Name x p) [e, .Name y q] [] pos) (.bool false) := by
  subst hx hy
  refine ⟨fun F A Z W s Q E hsc ok st h => ?_⟩
  refine wpAny_Call_NameR (evBuiltin hk nb (by decide) PyProof.Rows.boot_isinstance (by decide) (by decide) hsc st ?_)
  rw [he]
  refine Calls.callWith_builtin rfl (Calls.evalArgs_plain (Calls.spliced_cons (h1.run F A Z W s _ _ hsc ok st fun v s1 Z1 e1 z1 r1 => ?_)))
  refine Calls.spliced_cons (evBuiltin hk' nb (by decide) PyProof.Rows.boot_bool (by decide) (by decide) hsc (st.ext e1 z1) ?_)
  refine Calls.spliced_nil ?_
  simp only [Rep] at r1
  obtain ⟨t, rfl⟩ := r1
  exact IsiPair.int_bool (h _ _ Z1 (e1.trans' (Ext0.tok s1 _)) (z1.trans (ZG.same z1.lt (Ext0.tok _ _)) e1) (by simp [Rep]))
end
end Mine
namespace Mine

/-- what a statement leaves: the heap stands outside of what the frame may write -/
structure Gr (Z W : Addr → Prop) (s : Shared) (Z' W' : Addr → Prop) (s' : Shared) : Prop where
  ext : ExtG W no s s'
  zs : ∀ b, Z b → Z' b
  zw : ∀ b, Z' b → Z b ∨ W b ∨ s.heap.get? b = none
  wg : ∀ b, W' b → W b ∨ s.heap.get? b = none

theorem Gr.refl (Z W : Addr → Prop) (s : Shared) : Gr Z W s Z W s := ⟨ExtG.refl .., fun _ z => z, fun _ z => .inl z, fun _ w => .inl w⟩
theorem Gr.trans {Z W Z1 W1 Z2 W2 : Addr → Prop} {s s1 s2 : Shared} (x : Gr Z W s Z1 W1 s1) (y : Gr Z1 W1 s1 Z2 W2 s2) : Gr Z W s Z2 W2 s2 where
  ext := x.ext.trans y.ext x.wg (fun _ h => h.elim)
  zs := fun b z => y.zs b (x.zs b z)
  zw := fun b z => (y.zw b z).elim (fun z => x.zw b z) fun q => q.elim (fun w => .inr (x.wg b w)) fun d => (x.ext.dead d).elim (fun d => .inr (.inr d)) fun w => .inr (.inl w)
  wg := fun b w => (y.wg b w).elim (fun w => x.wg b w) fun d => (x.ext.dead d).elim .inr .inl
theorem Gr.of {Z W Z' : Addr → Prop} {s s' : Shared} (e : Ext0 s s') (z : ZG Z s Z' s') : Gr Z W s Z' W s' :=
  ⟨e.any, z.sub, fun b h => (z.new b h).elim .inl fun d => .inr (.inr d), fun _ w => .inl w⟩

inductive Out where
  | next (σ : Loc)
  | brk (σ : Loc)
  | cont (σ : Loc)
  | ret (x : PV)

def OutAt (G : Gc) (F : Fi) (Z W : Addr → Prop) (o : Out) (fl : Flow) (s : Shared) : Prop :=
  match o with
  | .next σ => fl = .next ∧ St G F Z W σ s
  | .brk σ => fl = .brk ∧ St G F Z W σ s
  | .cont σ => fl = .cont ∧ St G F Z W σ s
  | .ret x => ∃ v, fl = .ret v ∧ Rep Z s.heap x v ∧ St G F Z W [] s

structure Ex (G : Gc) (n : Nat) (sc : Scope) (σ : Loc) (ss : List Stmt) (o : Out) : Prop where
  run : ∀ (F : Fi) (A : Around) (Z W : Addr → Prop) (s : Shared) (Q : Flow → Shared → Prop) (E : Value → Shared → Prop), F.sc = sc → F.own = true → OkA n A → St G F Z W σ s →
    (∀ fl s' Z' W', Gr Z W s Z' W' s' → OutAt G F Z' W' o fl s' → Q fl s') → wpAny (model G.prog G.w) A (execs ss F.env) Q E s
structure Ex1 (G : Gc) (n : Nat) (sc : Scope) (σ : Loc) (st : Stmt) (o : Out) : Prop where
  run : ∀ (F : Fi) (A : Around) (Z W : Addr → Prop) (s : Shared) (Q : Flow → Shared → Prop) (E : Value → Shared → Prop), F.sc = sc → F.own = true → OkA n A → St G F Z W σ s →
    (∀ fl s' Z' W', Gr Z W s Z' W' s' → OutAt G F Z' W' o fl s' → Q fl s') → wpAny (model G.prog G.w) A (exec st F.env) Q E s

theorem ns_same {h : Heap} {a : Addr} {m m' : Str → Option Value} (x : h.Ns a m) (y : h.Ns a m') (n : Str) : m n = m' n := by
  obtain ⟨o, es, ep, e1, e2, _, e3⟩ := x
  obtain ⟨o', es', ep', d1, d2, _, d3⟩ := y
  rw [e1] at d1; cases d1
  rw [e2] at d2; cases d2
  rw [← e3, ← d3]

theorem lookup_cons_self {α : Type} (x : Str) (v : α) (l : List (Str × α)) : List.lookup x ((x, v) :: l) = some v := by simp [List.lookup]
theorem lookup_cons_ne {α : Type} {x y : Str} (v : α) (l : List (Str × α)) (h : y ≠ x) : List.lookup y ((x, v) :: l) = l.lookup y := by
  rw [List.lookup_cons, beq_eq_false_iff_ne.mpr h]

section
variable {G : Gc} {F : Fi} {Z W : Addr → Prop} {σ : Loc} {s : Shared}

/-- the frame after a local name has been stored: all but the values -/
theorem St.local_ (st : St G F Z W σ s) {h' : Heap} {tk : Nat} {m' : Str → Option Value} (hn : h'.Ns F.L m') (hs : Heap.SameBut F.L s.heap h') : Gr Z W s Z W { s with heap := h', toks := tk } ∧
    St G F Z W [] { s with heap := h', toks := tk } := by
  have live : ∀ b o, s.heap.get? b = some o → ∃ o', h'.get? b = some o' := fun b o e => by
    by_cases q : b = F.L
    · obtain ⟨o', _, _, e', _⟩ := hn; exact ⟨o', q ▸ e'⟩
    · exact ⟨o, (hs.2 b q).trans e⟩
  have hne : ∀ b, ¬ W b → b ≠ F.L := fun b nb e => nb (e ▸ st.LW)
  refine ⟨⟨⟨fun b o nb e => (hs.2 b (hne b nb)).trans e, Nat.le_refl _, fun _ _ _ e => e, rfl, fun x => x⟩, fun _ z => z, fun _ z => .inl z, fun _ w => .inl w⟩, ?_⟩
  exact {
    b0 := st.b0
    hk := fun b o e => (hs.2 b (fun q => by have := st.wn0 _ st.LW; rw [← q, e] at this; cases this)).trans (st.hk b o e)
    bare := st.bare
    zlt := fun b z => let ⟨o, e⟩ := st.zlt b z; live b o e
    wlt := fun b w => let ⟨o, e⟩ := st.wlt b w; live b o e
    wn0 := st.wn0
    disj := st.disj
    z0 := st.z0
    z1 := st.z1
    LW := st.LW
    kind := st.kind
    ns := ⟨_, hn⟩
    cells := fun ho y hy => by
      obtain ⟨c, v, h1, ⟨oc, h2, h3⟩, h4⟩ := st.cells ho y hy
      refine ⟨c, v, h1, ⟨oc, (hs.2 c (fun q => ?_)).trans h2, h3⟩, h4⟩
      obtain ⟨m, o, es, ep, e1, e2, _⟩ := st.ns
      rw [← q, h2] at e1; cases e1
      rw [h3] at e2; cases e2
    inj := st.inj
    ownd := st.ownd
    vals := fun _ _ h => by cases h
    owns := ⟨fun _ => (0 : Nat), And.intro (fun _ _ h => by simp at h) (fun _ _ _ _ h => by simp at h)⟩ }

theorem cell_ne {h : Heap} {L c : Addr} {m : Str → Option Value} {v : Option Value} (hn : h.Ns L m) (hc : h.IsCell c v) : c ≠ L := by
  rintro rfl
  obtain ⟨o, es, ep, e1, e2, _⟩ := hn
  obtain ⟨oc, h2, h3⟩ := hc
  rw [h2] at e1; cases e1
  rw [h3] at e2; cases e2
theorem list_ne {h : Heap} {L c : Addr} {m : Str → Option Value} {vs : Array Value} (hn : h.Ns L m) (hc : h.PlainList c vs) : c ≠ L := by
  rintro rfl
  obtain ⟨o, es, ep, e1, e2, _⟩ := hn
  obtain ⟨k, h2⟩ := hc
  rw [h2] at e1; cases e1
  cases e2
theorem list_ne_cell {h : Heap} {a c : Addr} {v : Option Value} {vs : Array Value} (hc : h.IsCell c v) (hl : h.PlainList a vs) : a ≠ c := by
  rintro rfl
  obtain ⟨oc, h2, h3⟩ := hc
  obtain ⟨k, h4⟩ := hl
  rw [h4] at h2; cases h2
  cases h3

/-- values that stood before stand, of other names -/
theorem VarAt.local_ (st : St G F Z W σ s) {h' : Heap} {x y : Str} {v w : Value} {m : Str → Option Value} (hm : s.heap.Ns F.L m) (hn : h'.Ns F.L fun z => if z = x then some w else m z) (hs : Heap.SameBut F.L s.heap h')
    (hy : y ≠ x) (r : VarAt F s.heap y v) : VarAt F h' y v := by
  rcases r with ⟨k, m1, hn1, hm1⟩ | ⟨k, c, hc, hv⟩
  · refine .inl ⟨k, _, hn, ?_⟩
    rw [if_neg hy, ← ns_same hn1 hm]; exact hm1
  · have := cell_ne hm hv
    obtain ⟨oc, h2, h3⟩ := hv
    exact .inr ⟨k, c, hc, oc, (hs.2 c this).trans h2, h3⟩

theorem St.putB {x : Str} {pv : PV} {v : Value} {A : Around} {E : Value → Shared → Prop} {Q : Unit → Shared → Prop} (st : St G F Z W σ s) (hk : F.sc.names.lookup x = some .local ∨ (F.own = true ∧ F.sc.names.lookup x = some .cell)) (r : Rep Z s.heap pv v)
    (h : ∀ s', s'.heap.objs.size = s.heap.objs.size → Gr Z W s Z W s' → St G F Z W ((x, .val pv) :: σ) s' → Q () s') : wpAny (model G.prog G.w) A (storeName F.env x v) Q E s := by
  obtain ⟨m, hm⟩ := st.ns
  rcases hk with hk | ⟨ho, hk⟩
  · refine wpAny_storeName_local (env := F.env) hk hm (fun h' hn hs => ?_) (by have : F.env.scope.kind = .function := st.kind; rw [this]; rfl)
    obtain ⟨g, st'⟩ := st.local_ (tk := s.toks + 1) hn hs
    have zk : ∀ b o, Z b → s.heap.get? b = some o → h'.get? b = some o := fun b o z e => g.ext.keep b o (st.disj b z) e
    refine h _ hs.1 g { st' with vals := fun y p hy => ?_, owns := ?_ }
    · by_cases q : y = x
      · subst q
        rw [lookup_cons_self] at hy
        cases hy
        exact ⟨v, .inl ⟨hk, _, hn, by simp⟩, r.mono (fun _ z => z) zk⟩
      · rw [lookup_cons_ne _ _ q] at hy
        obtain ⟨w, h1, h2⟩ := st.vals y p hy
        exact ⟨w, h1.local_ st hm hn hs q, h2.mono (fun _ z => z) zk⟩
    · obtain ⟨ad, h1, h2⟩ := st.owns
      have ne : ∀ y xs, List.lookup y ((x, Slot.val pv) :: σ) = some (.own xs) → y ≠ x := fun y xs hy q => by subst q; rw [lookup_cons_self] at hy; cases hy
      refine ⟨ad, fun y xs hy => ?_, fun y z xs ys hy hz => ?_⟩
      · have q := ne y xs hy
        rw [lookup_cons_ne _ _ q] at hy
        obtain ⟨a1, a2, vs, hp, a4⟩ := h1 y xs hy
        have nl := list_ne hm hp
        obtain ⟨k, a3⟩ := hp
        exact ⟨a1, a2.local_ st hm hn hs q, vs, ⟨k, (hs.2 _ nl).trans a3⟩, a4.mono (fun _ z => z) zk⟩
      · have q1 := ne y xs hy
        have q2 := ne z ys hz
        rw [lookup_cons_ne _ _ q1] at hy
        rw [lookup_cons_ne _ _ q2] at hz
        exact h2 y z xs ys hy hz
  · obtain ⟨c, v0, hc, hv0, wc⟩ := st.cells ho x hk
    refine wpAny_storeName_cell (env := F.env) st.kind hk hc hv0 fun h' hv' hs => ?_
    have cl := cell_ne hm hv0
    have live : ∀ b o, s.heap.get? b = some o → ∃ o', h'.get? b = some o' := fun b o e => by
      by_cases q : b = c
      · obtain ⟨o', e', _⟩ := hv'; exact ⟨o', q ▸ e'⟩
      · exact ⟨o, (hs.2 b q).trans e⟩
    have nw : ∀ b, ¬ W b → b ≠ c := fun b nb e => nb (e ▸ wc)
    have g : Gr Z W s Z W { s with heap := h' } := ⟨⟨fun b o nb e => (hs.2 b (nw b nb)).trans e, Nat.le_refl _, fun _ _ _ e => e, rfl, fun x => x⟩, fun _ z => z, fun _ z => .inl z, fun _ w => .inl w⟩
    have zk : ∀ b o, Z b → s.heap.get? b = some o → h'.get? b = some o := fun b o z e => g.ext.keep b o (st.disj b z) e
    have va : ∀ y w, y ≠ x → VarAt F s.heap y w → VarAt F h' y w := fun y w q r => by
      rcases r with ⟨k, m1, hn1, hm1⟩ | ⟨k, c1, hc1, oc, h2, h3⟩
      · exact .inl ⟨k, m1, hn1.sameBut hs (Ne.symm cl), hm1⟩
      · refine .inr ⟨k, c1, hc1, oc, (hs.2 c1 (fun e => q (st.inj ho y x c (e ▸ hc1) hc))).trans h2, h3⟩
    refine h _ hs.1 g ?_
    exact {
      b0 := st.b0
      hk := fun b o e => (hs.2 b (fun q => by have := st.wn0 _ wc; rw [← q, e] at this; cases this)).trans (st.hk b o e)
      bare := st.bare
      zlt := fun b z => let ⟨o, e⟩ := st.zlt b z; live b o e
      wlt := fun b w => let ⟨o, e⟩ := st.wlt b w; live b o e
      wn0 := st.wn0
      disj := st.disj
      z0 := st.z0
      z1 := st.z1
      LW := st.LW
      kind := st.kind
      ns := ⟨_, hm.sameBut hs (Ne.symm cl)⟩
      cells := fun ho y hy => by
        obtain ⟨c1, v1, h1, h2, h4⟩ := st.cells ho y hy
        by_cases q : c1 = c
        · subst q; exact ⟨c1, _, h1, hv', h4⟩
        · obtain ⟨oc, h2, h3⟩ := h2
          exact ⟨c1, v1, h1, ⟨oc, (hs.2 c1 q).trans h2, h3⟩, h4⟩
      inj := st.inj
      ownd := st.ownd
      vals := fun y p hy => by
        by_cases q : y = x
        · subst q
          rw [lookup_cons_self] at hy
          cases hy
          exact ⟨v, .inr ⟨hk, c, hc, hv'⟩, r.mono (fun _ z => z) zk⟩
        · rw [lookup_cons_ne _ _ q] at hy
          obtain ⟨w, h1, h2⟩ := st.vals y p hy
          exact ⟨w, va y w q h1, h2.mono (fun _ z => z) zk⟩
      owns := by
        obtain ⟨ad, h1, h2⟩ := st.owns
        have ne : ∀ y xs, List.lookup y ((x, Slot.val pv) :: σ) = some (.own xs) → y ≠ x := fun y xs hy q => by subst q; rw [lookup_cons_self] at hy; cases hy
        refine ⟨ad, fun y xs hy => ?_, fun y z xs ys hy hz => ?_⟩
        · have q := ne y xs hy
          rw [lookup_cons_ne _ _ q] at hy
          obtain ⟨a1, a2, vs, hp, a4⟩ := h1 y xs hy
          have nl := list_ne_cell hv0 hp
          obtain ⟨k, a3⟩ := hp
          exact ⟨a1, va y _ q a2, vs, ⟨k, (hs.2 _ nl).trans a3⟩, a4.mono (fun _ z => z) zk⟩
        · have q1 := ne y xs hy
          have q2 := ne z ys hz
          rw [lookup_cons_ne _ _ q1] at hy
          rw [lookup_cons_ne _ _ q2] at hz
          exact h2 y z xs ys hy hz }

theorem St.put {x : Str} {pv : PV} {v : Value} {A : Around} {E : Value → Shared → Prop} {Q : Unit → Shared → Prop} (st : St G F Z W σ s) (ho : F.own = true) (hk : F.sc.names.lookup x = some .local ∨ F.sc.names.lookup x = some .cell) (r : Rep Z s.heap pv v)
    (h : ∀ s', Gr Z W s Z W s' → St G F Z W ((x, .val pv) :: σ) s' → Q () s') : wpAny (model G.prog G.w) A (storeName F.env x v) Q E s :=
  st.putB (hk.imp id fun k => ⟨ho, k⟩) r fun s' _ => h s'

/-- a new list that the frame may change -/
theorem St.putOwn {x : Str} {xs : List PV} {vs : List Value} {a : Addr} {A : Around} {E : Value → Shared → Prop} {Q : Unit → Shared → Prop} (st : St G F Z W σ s) (hk : F.sc.names.lookup x = some .local)
    (hp : s.heap.PlainList a vs.toArray) (hr : Reps Z s.heap xs vs) (za : ¬ Z a) (wa : ¬ W a) (ha : F.h0.get? a = none)
    (h : ∀ s', ExtG W no s s' → St G F Z (fun b => W b ∨ b = a) ((x, .own xs) :: σ) s' → Q () s') : wpAny (model G.prog G.w) A (storeName F.env x (.ref a)) Q E s := by
  obtain ⟨m, hm⟩ := st.ns
  refine wpAny_storeName_local (env := F.env) hk hm (fun h' hn hs => ?_) (by have : F.env.scope.kind = .function := st.kind; rw [this]; rfl)
  obtain ⟨g, st'⟩ := st.local_ (tk := s.toks + 1) hn hs
  have zk : ∀ b o, Z b → s.heap.get? b = some o → h'.get? b = some o := fun b o z e => g.ext.keep b o (st.disj b z) e
  have hp' : h'.PlainList a vs.toArray := by
    have nl := list_ne hm hp
    obtain ⟨k, a3⟩ := hp
    exact ⟨k, (hs.2 _ nl).trans a3⟩
  refine h _ g.ext { st' with wlt := ?_, wn0 := ?_, disj := ?_, LW := .inl st'.LW, cells := ?_, vals := fun y p hy => ?_, owns := ?_ }
  · rintro b (w | rfl)
    · exact st'.wlt b w
    · obtain ⟨k, a3⟩ := hp'; exact ⟨_, a3⟩
  · rintro b (w | rfl)
    · exact st.wn0 b w
    · exact ha
  · rintro b z (w | rfl)
    · exact st.disj b z w
    · exact za z
  · intro o y hy
    obtain ⟨c, v, h1, h2, h3⟩ := st'.cells o y hy
    exact ⟨c, v, h1, h2, .inl h3⟩
  · by_cases q : y = x
    · subst q; rw [lookup_cons_self] at hy; cases hy
    · rw [lookup_cons_ne _ _ q] at hy
      obtain ⟨w, h1, h2⟩ := st.vals y p hy
      exact ⟨w, h1.local_ st hm hn hs q, h2.mono (fun _ z => z) zk⟩
  · obtain ⟨ad, h1, h2⟩ := st.owns
    refine ⟨fun y => if y = x then a else ad y, fun y ys hy => ?_, fun y z ys zs hy hz hyz => ?_⟩
    · by_cases q : y = x
      · subst q
        rw [lookup_cons_self] at hy
        cases hy
        dsimp only
        rw [if_pos rfl]
        exact ⟨.inr rfl, .inl ⟨hk, _, hn, by simp⟩, vs, hp', hr.mono (fun _ z => z) zk⟩
      · rw [lookup_cons_ne _ _ q] at hy
        obtain ⟨a1, a2, us, hq, a4⟩ := h1 y ys hy
        have nl := list_ne hm hq
        obtain ⟨k, a3⟩ := hq
        dsimp only
        rw [if_neg q]
        exact ⟨.inl a1, a2.local_ st hm hn hs q, us, ⟨k, (hs.2 _ nl).trans a3⟩, a4.mono (fun _ z => z) zk⟩
    · dsimp only
      by_cases q1 : y = x
      · by_cases q2 : z = x
        · exact absurd (q1.trans q2.symm) hyz
        · rw [if_pos q1, if_neg q2]
          rw [lookup_cons_ne _ _ q2] at hz
          intro e
          exact wa (e ▸ (h1 z zs hz).1)
      · by_cases q2 : z = x
        · rw [if_neg q1, if_pos q2]
          rw [lookup_cons_ne _ _ q1] at hy
          intro e
          exact wa (e ▸ (h1 y ys hy).1)
        · rw [if_neg q1, if_neg q2]
          rw [lookup_cons_ne _ _ q1] at hy
          rw [lookup_cons_ne _ _ q2] at hz
          exact h2 y z ys zs hy hz hyz
end
end Mine
namespace Mine

section
variable {G : Gc} {n : Nat} {σ τ : Loc} {sc : Scope} {o : Out}

theorem Ex.nil : Ex G n sc σ [] (.next σ) := ⟨fun F A Z W s Q E _ _ _ st h => wpAny_execs_nil (h _ s Z W (Gr.refl ..) ⟨rfl, st⟩)⟩
theorem Ex.cons {s : Stmt} {ss : List Stmt} (h1 : Ex1 G n sc σ s (.next τ)) (h2 : Ex G n sc τ ss o) : Ex G n sc σ (s :: ss) o := by
  refine ⟨fun F A Z W s Q E hsc ho ok st h => ?_⟩
  refine wpAny_execs_cons (h1.run F A Z W s _ _ hsc ho ok st fun fl s1 Z1 W1 g1 o1 => ?_)
  obtain ⟨rfl, st1⟩ := o1
  exact h2.run F A Z1 W1 s1 _ _ hsc ho ok st1 fun fl s2 Z2 W2 g2 o2 => h fl s2 Z2 W2 (g1.trans g2) o2
def Out.stops : Out → Bool
  | .next _ => false
  | _ => true
theorem Ex.stop {s : Stmt} {ss : List Stmt} (h1 : Ex1 G n sc σ s o) (hs : o.stops = true) : Ex G n sc σ (s :: ss) o := by
  refine ⟨fun F A Z W s Q E hsc ho ok st h => ?_⟩
  refine wpAny_execs_cons (h1.run F A Z W s _ _ hsc ho ok st fun fl s1 Z1 W1 g1 o1 => ?_)
  have := h fl s1 Z1 W1 g1 o1
  cases o with
  | next => simp [Out.stops] at hs
  | brk => obtain ⟨rfl, _⟩ := o1; exact this
  | cont => obtain ⟨rfl, _⟩ := o1; exact this
  | ret => obtain ⟨v, rfl, _⟩ := o1; exact this
theorem Ex.weak {ss : List Stmt} (h1 : Ex G n sc τ ss o) (h : ∀ y sl, τ.lookup y = some sl → σ.lookup y = some sl) : Ex G n sc σ ss o :=
  ⟨fun F A Z W s Q E hsc ho ok st k => h1.run F A Z W s Q E hsc ho ok (st.weak h) k⟩
theorem Ex.out {ss : List Stmt} (h1 : Ex G n sc σ ss (.next τ)) {τ' : Loc} (h : ∀ y sl, τ'.lookup y = some sl → τ.lookup y = some sl) : Ex G n sc σ ss (.next τ') :=
  ⟨fun F A Z W s Q E hsc ho ok st k => h1.run F A Z W s Q E hsc ho ok st fun fl s' Z' W' g o => k fl s' Z' W' g ⟨o.1, o.2.weak h⟩⟩

theorem Ex1.assign {x : Str} {e : Expr} {pv : PV} {p pos} (h1 : Ev G n sc σ e pv) (hk : sc.names.lookup x = some .local ∨ sc.names.lookup x = some .cell)
    (hs : ∀ env, swapsWith e (some (.Name x p)) pos.line env = pure false) : Ex1 G n sc σ (.Assign [.Name x p] e pos) (.next ((x, .val pv) :: σ)) := by
  refine ⟨fun F A Z W s Q E hsc ho ok st h => ?_⟩
  refine wpAny_Assign_Name (h1.run F A Z W s _ _ hsc ok st fun v s1 Z1 e1 z1 r1 => ?_) (hs _)
  exact (st.ext e1 z1).put ho (by rw [hsc]; exact hk) r1 fun s2 g2 st2 => h _ s2 Z1 W ((Gr.of e1 z1).trans g2) ⟨rfl, st2⟩
theorem Ex1.aug {x : Str} {e : Expr} {a b c : PV} {op : Operator} {p pos} (hx : σ.lookup x = some (.val a)) (h1 : Ev G n sc σ e b) (h2 : InV G n op a b c)
    (hk : sc.names.lookup x = some .local ∨ sc.names.lookup x = some .cell) : Ex1 G n sc σ (.AugAssign (.Name x p) op e pos) (.next ((x, .val c) :: σ)) := by
  refine ⟨fun F A Z W s Q E hsc ho ok st h => ?_⟩
  obtain ⟨v, hv, hr⟩ := st.vals x a hx
  have load : ∀ {Q : Value → Shared → Prop}, Q v s → wpAny (model G.prog G.w) A (loadName F.env x) Q E s := fun q => by
    rcases hv with ⟨k, m, hn, hm⟩ | ⟨k, c, hc, hv⟩
    · exact wpAny_loadName_local (env := F.env) st.kind k hn hm q
    · exact wpAny_loadName_cell (env := F.env) st.kind k hc hv q
  refine wpAny_AugAssign_Name (load (h1.run F A Z W s _ _ hsc ok st fun w s1 Z1 e1 z1 r1 => ?_))
  refine h2 A Z1 s1 v w _ _ ok z1.lt (hr.ext e1 z1) r1 fun r s2 Z2 e2 z2 r2 => ?_
  have e12 := e1.trans' e2
  have z12 := z1.trans z2 e1
  exact (st.ext e12 z12).put ho (by rw [hsc]; exact hk) r2 fun s3 g3 st3 => h _ s3 Z2 W ((Gr.of e12 z12).trans g3) ⟨rfl, st3⟩
theorem Ex1.if_ {t : Expr} {a b : List Stmt} {c : Bool} {pos} (h1 : EvT G n sc σ t c) (h2 : Ex G n sc σ (if c then a else b) o) : Ex1 G n sc σ (.If t a b pos) o := by
  refine ⟨fun F A Z W s Q E hsc ho ok st h => ?_⟩
  refine wpAny_If (h1.run F A Z W s _ _ hsc ok st fun s1 Z1 e1 z1 => ?_)
  have g := Gr.of (W := W) e1 z1
  cases c with
  | true => exact h2.run F A Z1 W s1 _ _ hsc ho ok (st.ext e1 z1) fun fl s2 Z2 W2 g2 o2 => h fl s2 Z2 W2 (g.trans g2) o2
  | false => exact h2.run F A Z1 W s1 _ _ hsc ho ok (st.ext e1 z1) fun fl s2 Z2 W2 g2 o2 => h fl s2 Z2 W2 (g.trans g2) o2
theorem Ex1.assert {t : Expr} {m : Option Expr} {pos} (h1 : EvT G n sc σ t true) : Ex1 G n sc σ (.Assert t m pos) (.next σ) := by
  refine ⟨fun F A Z W s Q E hsc ho ok st h => ?_⟩
  exact wpAny_Assert_holds (h1.run F A Z W s _ _ hsc ok st fun s1 Z1 e1 z1 => ⟨rfl, h _ s1 Z1 W (Gr.of e1 z1) ⟨rfl, st.ext e1 z1⟩⟩)
theorem Ex1.brk {pos} : Ex1 G n sc σ (.Break pos) (.brk σ) := ⟨fun F A Z W s Q E _ _ _ st h => wpAny_Break (h _ s Z W (Gr.refl ..) ⟨rfl, st⟩)⟩
theorem Ex1.ret {e : Expr} {pv : PV} {pos} (h1 : Ev G n sc σ e pv) : Ex1 G n sc σ (.Return (some e) pos) (.ret pv) := by
  refine ⟨fun F A Z W s Q E hsc ho ok st h => ?_⟩
  refine wpAny_Return_some (h1.run F A Z W s _ _ hsc ok st fun v s1 Z1 e1 z1 r1 => ?_)
  exact h _ s1 Z1 W (Gr.of e1 z1) ⟨v, rfl, r1, (st.ext e1 z1).weak fun y sl q => by simp at q⟩
theorem Ex1.retNone {pos} : Ex1 G n sc σ (.Return none pos) (.ret .none) := by
  refine ⟨fun F A Z W s Q E hsc ho ok st h => ?_⟩
  exact wpAny_Return_none (h _ s Z W (Gr.refl ..) ⟨_, rfl, by simp [Rep], st.weak fun y sl q => by simp at q⟩)
theorem Ex1.exprStr {e : Expr} {pv : PV} {pos} (h1 : Ev G n sc σ e pv) (hs : ∀ env, swapsWith e none pos.line env = pure false) (hi : ∀ F : Fi, F.sc = sc → interactive F.env = false) : Ex1 G n sc σ (.Expr e pos) (.next σ) := by
  refine ⟨fun F A Z W s Q E hsc ho ok st h => ?_⟩
  exact wpAny_Expr_any (h1.run F A Z W s _ _ hsc ok st fun v s1 Z1 e1 z1 r1 => h _ s1 Z1 W (Gr.of e1 z1) ⟨rfl, st.ext e1 z1⟩) (hi F hsc) (hs _)

/-- a new list that nobody else holds -/
structure EvN (G : Gc) (n : Nat) (sc : Scope) (σ : Loc) (e : Expr) (xs : List PV) : Prop where
  run : ∀ (F : Fi) (A : Around) (Z W : Addr → Prop) (s : Shared) (Q : Value → Shared → Prop) (E : Value → Shared → Prop), F.sc = sc → OkA n A → St G F Z W σ s →
    (∀ a vs s' Z', Ext0 s s' → ZG Z s Z' s' → s.heap.get? a = none → ¬ Z' a → s'.heap.PlainList a vs.toArray → Reps Z' s'.heap xs vs → Q (.ref a) s') → wpAny (model G.prog G.w) A (eval e F.env) Q E s
theorem not_live {Z : Addr → Prop} {h : Heap} (l : Liv Z h) {a : Addr} (e : h.get? a = none) : ¬ Z a := fun z => by obtain ⟨o, q⟩ := l a z; rw [e] at q; cases q
theorem EvN.disp {es : List Expr} {xs : List PV} {pos} (h1 : EvL G n sc σ es xs) (hl : xs.length ≤ 1000000) : EvN G n sc σ (.List es pos) xs := by
  refine ⟨fun F A Z W s Q E hsc ok st h => ?_⟩
  refine wpAny_List (h1.run F A Z W s _ _ pos hsc ok st fun vs s1 Z1 e1 z1 r1 => ⟨?_, ?_⟩)
  · rw [r1.length, sizeLine_eq]; omega
  · have e2 := Ext0.push s1 { cls := .type "list", data := .seq vs.toArray } s1.toks
    exact h _ vs _ Z1 (e1.trans' e2) (z1.trans (ZG.same z1.lt e2) e1) (Ext0.dead e1 (none_size _)) (not_live z1.lt (none_size _)) ⟨0, Heap.get?_push_size _ rfl⟩ (r1.ext e2 (ZG.same z1.lt e2))
theorem Ex1.assignOwn {x : Str} {e : Expr} {xs : List PV} {p pos} (h1 : EvN G n sc σ e xs) (hk : sc.names.lookup x = some .local)
    (hs : ∀ env, swapsWith e (some (.Name x p)) pos.line env = pure false) : Ex1 G n sc σ (.Assign [.Name x p] e pos) (.next ((x, .own xs) :: σ)) := by
  refine ⟨fun F A Z W s Q E hsc ho ok st h => ?_⟩
  refine wpAny_Assign_Name (h1.run F A Z W s _ _ hsc ok st fun a vs s1 Z1 e1 z1 na za hp r1 => ?_) (hs _)
  have st1 := st.ext e1 z1
  have h0 : F.h0.get? a = none := by
    cases q : F.h0.get? a with
    | none => rfl
    | some o => rw [st.hk a o q] at na; cases na
  refine st1.putOwn (by rw [hsc]; exact hk) hp r1 za (fun w => by obtain ⟨o, q⟩ := st.wlt a w; rw [na] at q; cases q) h0 fun s2 g2 st2 => ?_
  refine h _ s2 Z1 _ ?_ ⟨rfl, st2⟩
  have g := Gr.of (W := W) e1 z1
  exact ⟨g.ext.trans g2 (fun b w => .inl w) (fun _ h => h.elim), g.zs, g.zw, fun b w => w.elim .inl fun e => .inr (e ▸ na)⟩
end

section
variable {G : Gc} {F : Fi} {Z W : Addr → Prop} {σ : Loc} {s : Shared}
theorem St.freeze {x : Str} {xs : List PV} (st : St G F Z W σ s) (hx : σ.lookup x = some (.own xs)) : ∃ a, Gr Z W s (fun b => Z b ∨ b = a) (fun b => W b ∧ b ≠ a) s ∧ W a ∧
    St G F (fun b => Z b ∨ b = a) (fun b => W b ∧ b ≠ a) ((x, .val (.list xs)) :: σ) s := by
  obtain ⟨ad, h1, h2⟩ := st.owns
  obtain ⟨wa, va, vs, hp, hr⟩ := h1 x xs hx
  obtain ⟨m, hm⟩ := st.ns
  refine ⟨ad x, ⟨ExtG.refl .., fun _ z => .inl z, fun b z => z.elim .inl fun e => .inr (.inl (e ▸ wa)), fun b w => .inl w.1⟩, wa, ?_⟩
  have obj : ∃ o, s.heap.get? (ad x) = some o := let ⟨k, e⟩ := hp; ⟨_, e⟩
  exact { st with
    zlt := fun b z => z.elim (st.zlt b) fun e => e ▸ obj
    wlt := fun b w => st.wlt b w.1
    wn0 := fun b w => st.wn0 b w.1
    disj := fun b z w => z.elim (fun z => st.disj b z w.1) w.2
    z0 := fun b z => z.elim (st.z0 b) fun e => .inr (e ▸ st.wn0 _ wa)
    z1 := fun b z => .inl (st.z1 b z)
    LW := ⟨st.LW, Ne.symm (list_ne hm hp)⟩
    cells := fun o y hy => let ⟨c, v, q1, q2, q3⟩ := st.cells o y hy; ⟨c, v, q1, q2, q3, Ne.symm (list_ne_cell q2 hp)⟩
    vals := fun y p hy => by
      by_cases q : y = x
      · subst q
        rw [lookup_cons_self] at hy
        cases hy
        refine ⟨_, va, ?_⟩
        simp only [Rep]
        exact ⟨_, vs, rfl, .inr rfl, hp.isList, hr.mono (fun _ z => .inl z) fun _ _ _ e => e⟩
      · rw [lookup_cons_ne _ _ q] at hy
        obtain ⟨w, q1, q2⟩ := st.vals y p hy
        exact ⟨w, q1, q2.mono (fun _ z => .inl z) fun _ _ _ e => e⟩
    owns := by
      have ne : ∀ y ys, List.lookup y ((x, Slot.val (.list xs)) :: σ) = some (.own ys) → y ≠ x := fun y xs hy q => by subst q; rw [lookup_cons_self] at hy; cases hy
      refine ⟨ad, fun y ys hy => ?_, fun y z ys zs hy hz => ?_⟩
      · have q := ne y ys hy
        rw [lookup_cons_ne _ _ q] at hy
        obtain ⟨a1, a2, us, a3, a4⟩ := h1 y ys hy
        exact ⟨⟨a1, h2 y x ys xs hy hx q⟩, a2, us, a3, a4.mono (fun _ z => .inl z) fun _ _ _ e => e⟩
      · have q1 := ne y ys hy
        have q2 := ne z zs hz
        rw [lookup_cons_ne _ _ q1] at hy
        rw [lookup_cons_ne _ _ q2] at hz
        exact h2 y z ys zs hy hz }
end

section
variable {G : Gc} {n : Nat} {σ τ : Loc} {sc : Scope} {o : Out}
theorem Ex.freeze {ss : List Stmt} {x : Str} {xs : List PV} (hx : σ.lookup x = some (.own xs)) (h1 : Ex G n sc ((x, .val (.list xs)) :: σ) ss o) : Ex G n sc σ ss o := by
  refine ⟨fun F A Z W s Q E hsc ho ok st h => ?_⟩
  obtain ⟨a, g, _, st'⟩ := st.freeze hx
  exact h1.run F A _ _ s Q E hsc ho ok st' fun fl s' Z' W' g' o' => h fl s' Z' W' (g.trans g') o'
theorem Ex1.freeze {ss : Stmt} {x : Str} {xs : List PV} (hx : σ.lookup x = some (.own xs)) (h1 : Ex1 G n sc ((x, .val (.list xs)) :: σ) ss o) : Ex1 G n sc σ ss o := by
  refine ⟨fun F A Z W s Q E hsc ho ok st h => ?_⟩
  obtain ⟨a, g, _, st'⟩ := st.freeze hx
  exact h1.run F A _ _ s Q E hsc ho ok st' fun fl s' Z' W' g' o' => h fl s' Z' W' (g.trans g') o'
def scal : PV → Bool
  | .none => true
  | .bool _ => true
  | .int _ => true
  | .str _ => true
  | _ => false
theorem Rep.scal {Z Z' : Addr → Prop} {h h' : Heap} {x : PV} {v : Value} (hs : scal x = true) (r : Rep Z h x v) : Rep Z' h' x v := by
  cases x <;> first | (simp only [Rep] at r ⊢; exact r) | (simp [Mine.scal] at hs)
theorem Ev.borrow {e : Expr} {x : Str} {xs : List PV} {pv : PV} (hx : σ.lookup x = some (.own xs)) (h1 : Ev G n sc ((x, .val (.list xs)) :: σ) e pv) (hs : scal pv = true) : Ev G n sc σ e pv := by
  refine ⟨fun F A Z W s Q E hsc ok st h => ?_⟩
  obtain ⟨a, g, _, st'⟩ := st.freeze hx
  exact h1.run F A _ _ s Q E hsc ok st' fun v s' Z' e' z' r' => h v s' Z e' (ZG.same st.zlt e') (r'.scal hs)
theorem EvT.borrow {e : Expr} {x : Str} {xs : List PV} {b : Bool} (hx : σ.lookup x = some (.own xs)) (h1 : EvT G n sc ((x, .val (.list xs)) :: σ) e b) : EvT G n sc σ e b := by
  refine ⟨fun F A Z W s Q E hsc ok st h => ?_⟩
  obtain ⟨a, g, _, st'⟩ := st.freeze hx
  exact h1.run F A _ _ s Q E hsc ok st' fun s' Z' e' z' => h s' Z e' (ZG.same st.zlt e')

/-! a def is entered -/
theorem OkA.deeper {A : Around} {env : Env} (h : OkA (n + 1) A) : OkA n (A.deeper env) := by
  obtain ⟨h1, h2, h3⟩ := h
  refine ⟨h1, ?_, ?_⟩
  · show A.depth + 1 + n < 1000; omega
  · show A.units + 3 + 8 * n + 100 < 9900; omega
theorem cellsFrom_addr : ∀ (names : List (Str × NameKind)) (k : Nat) (acc : List (Str × Addr)) (x y : Str) (c : Addr), (∀ p ∈ acc, p.2 < k) → (∀ p ∈ acc, ∀ q ∈ acc, p.2 = q.2 → p.1 = q.1) →
    (cellsFrom k names acc).lookup x = some c → (cellsFrom k names acc).lookup y = some c → x = y
  | [], k, acc, x, y, c, hk, hi, hx, hy => hi _ (mem_of_lookup hx) _ (mem_of_lookup hy) rfl
  | (nm, kd) :: r, k, acc, x, y, c, hk, hi, hx, hy => by
    unfold cellsFrom at hx hy
    split at hx
    · rename_i hq
      rw [if_pos hq] at hy
      refine cellsFrom_addr r (k + 1) ((nm, k) :: acc) x y c (fun p hp => ?_) (fun p hp q hq e => ?_) hx hy
      · rcases List.mem_cons.mp hp with rfl | hp
        · exact Nat.lt_succ_self _
        · exact Nat.lt_succ_of_lt (hk p hp)
      · rcases List.mem_cons.mp hp with rfl | hp <;> rcases List.mem_cons.mp hq with rfl | hq
        · rfl
        · exact absurd (hk q hq) (by rw [← e]; exact Nat.lt_irrefl _)
        · exact absurd (hk p hp) (by rw [e]; exact Nat.lt_irrefl _)
        · exact hi p hp q hq e
    · rename_i hq
      rw [if_neg hq] at hy
      exact cellsFrom_addr r k acc x y c hk hi hx hy
end
end Mine
namespace Mine

theorem bindL_not {k : Str → Option NameKind} {y : Str} : ∀ (b : List (Str × Value)) (m : Str → Option Value), y ∉ b.map (·.1) → bindL k b m y = m y
  | [], m, _ => rfl
  | (n, v) :: r, m, h => by
    simp only [List.map_cons, List.mem_cons, not_or] at h
    unfold bindL
    rw [bindL_not r _ h.2]
    split
    · exact if_neg h.1
    · rfl
theorem bindL_get {k : Str → Option NameKind} {y : Str} {v : Value} : ∀ (b : List (Str × Value)) (m : Str → Option Value), (b.map (·.1)).Nodup → b.lookup y = some v → k y = some .local → bindL k b m y = some v
  | [], m, _, h, _ => by simp at h
  | (n, w) :: r, m, hd, h, hk => by
    simp only [List.map_cons, List.nodup_cons] at hd
    unfold bindL
    by_cases q : y = n
    · subst q
      rw [List.lookup_cons, beq_self_eq_true] at h
      cases h
      rw [bindL_not r _ hd.1, if_pos hk, if_pos rfl]
    · rw [List.lookup_cons, beq_eq_false_iff_ne.mpr q] at h
      exact bindL_get r _ hd.2 h hk
theorem bindC_not {k : Str → Option NameKind} {y : Str} : ∀ (b : List (Str × Value)) (m : Str → Option Value), y ∉ b.map (·.1) → bindC k b m y = m y
  | [], m, _ => rfl
  | (n, v) :: r, m, h => by
    simp only [List.map_cons, List.mem_cons, not_or] at h
    unfold bindC
    rw [bindC_not r _ h.2]
    split
    · rfl
    · exact if_neg h.1
theorem bindC_get {k : Str → Option NameKind} {y : Str} {v : Value} : ∀ (b : List (Str × Value)) (m : Str → Option Value), (b.map (·.1)).Nodup → b.lookup y = some v → k y ≠ some .local → bindC k b m y = some v
  | [], m, _, h, _ => by simp at h
  | (n, w) :: r, m, hd, h, hk => by
    simp only [List.map_cons, List.nodup_cons] at hd
    unfold bindC
    by_cases q : y = n
    · subst q
      rw [List.lookup_cons, beq_self_eq_true] at h
      cases h
      rw [bindC_not r _ hd.1, if_neg hk, if_pos rfl]
    · rw [List.lookup_cons, beq_eq_false_iff_ne.mpr q] at h
      exact bindC_get r _ hd.2 h hk

def slots : List Str → List PV → Loc
  | n :: ns, x :: xs => (n, .val x) :: slots ns xs
  | _, _ => []
theorem slots_get {Z : Addr → Prop} {h : Heap} {y : Str} {pv : PV} : ∀ {ns : List Str} {xs : List PV} {vs : List Value}, Reps Z h xs vs → (slots ns xs).lookup y = some (.val pv) → ∃ v, (ns.zip vs).lookup y = some v ∧ Rep Z h pv v
  | [], xs, vs, r, hy => by simp [slots] at hy
  | n :: ns, [], vs, r, hy => by simp [slots] at hy
  | n :: ns, x :: xs, vs, r, hy => by
    simp only [Reps] at r
    obtain ⟨v, ws, rfl, r1, r2⟩ := r
    unfold slots at hy
    by_cases q : y = n
    · subst q
      rw [lookup_cons_self] at hy
      cases hy
      exact ⟨v, by simp [List.zip, List.lookup], r1⟩
    · rw [lookup_cons_ne _ _ q] at hy
      obtain ⟨w, h1, h2⟩ := slots_get r2 hy
      refine ⟨w, ?_, h2⟩
      rw [List.zip_cons_cons, List.lookup_cons, beq_eq_false_iff_ne.mpr q]
      exact h1
theorem slots_own {y : Str} {l : List PV} : ∀ {ns : List Str} {xs : List PV}, (slots ns xs).lookup y ≠ some (.own l)
  | [], xs => by simp [slots]
  | n :: ns, [] => by simp [slots]
  | n :: ns, x :: xs => by
    unfold slots
    by_cases q : y = n
    · subst q; rw [lookup_cons_self]; intro h; cases h
    · rw [lookup_cons_ne _ _ q]; exact slots_own
theorem slots_mem {y : Str} {sl : Slot} : ∀ {ns : List Str} {xs : List PV}, (slots ns xs).lookup y = some sl → y ∈ ns
  | [], xs, h => by simp [slots] at h
  | n :: ns, [], h => by simp [slots] at h
  | n :: ns, x :: xs, h => by
    unfold slots at h
    by_cases q : y = n
    · subst q; exact .head _
    · rw [lookup_cons_ne _ _ q] at h; exact .tail _ (slots_mem h)

theorem zip_fst_sub : ∀ (ns : List Str) (vs : List Value), List.Sublist ((ns.zip vs).map (·.1)) ns
  | [], vs => by simp
  | n :: ns, [] => by simp
  | n :: ns, v :: vs => by
    simp only [List.zip_cons_cons, List.map_cons]
    exact (zip_fst_sub ns vs).cons₂ n

def kindsOk (sc : Scope) (ns : List Str) : Bool := ns.all fun x => match sc.names.lookup x with
  | some .local => true
  | some .cell => ((cellsFrom 0 sc.names []).lookup x).isSome
  | _ => false

theorem cellsFrom_some : ∀ (names : List (Str × NameKind)) (k k' : Nat) (acc acc' : List (Str × Addr)) (x : Str), acc.map (·.1) = acc'.map (·.1) → ((cellsFrom k names acc).lookup x).isSome = ((cellsFrom k' names acc').lookup x).isSome
  | [], k, k', acc, acc', x, h => by
    unfold cellsFrom
    induction acc generalizing acc' with
    | nil => cases acc' with
      | nil => rfl
      | cons => simp at h
    | cons p r ih => cases acc' with
      | nil => simp at h
      | cons p' r' =>
        obtain ⟨a, b⟩ := p
        obtain ⟨a', b'⟩ := p'
        simp only [List.map_cons, List.cons.injEq] at h
        obtain ⟨rfl, h⟩ := h
        rw [List.lookup_cons, List.lookup_cons]
        cases x == a with
        | true => rfl
        | false => exact ih r' h
  | (nm, kd) :: r, k, k', acc, acc', x, h => by
    unfold cellsFrom
    split
    · exact cellsFrom_some r _ _ _ _ x (by simp only [List.map_cons, h])
    · exact cellsFrom_some r _ _ _ _ x h

theorem absent_of_le {h : Heap} {a : Addr} (q : h.objs.size ≤ a) : h.get? a = none := by
  cases e : h.get? a with
  | none => rfl
  | some o => exact absurd (Heap.lt_size e) (Nat.not_lt.mpr q)

/-- the ground of the top: what is asked of the state at a call -/
theorem Fn.intro {G : Gc} {n : Nat} {d : DefRec} {x : Str} {ns : List Str} {xs : List PV} {c : PV} (hm : d ∈ recsOf G.p) (hx : d.name = x)
    (hb : ∀ pm code doc vs, vs.length = xs.length → bindArgs (Calls.docDef d.name d.params d.body d.scope pm code doc) ⟨vs, []⟩ = pure (ns.zip vs))
    (hnd : ns.Nodup) (hks : kindsOk d.scope ns = true) (hcs : (d.scope.names.all fun p => !(d.scope.names.lookup p.1 == some .cell) || ((cellsFrom 0 d.scope.names []).lookup p.1).isSome) = true)
    (hk : d.scope.kind = .function) (hco : d.scope.isCoroutine = false) (hgen : d.scope.isGenerator = false)
    (h : Ex G n d.scope (slots ns xs) d.body (.ret c)) : Fn G (n + 1) x xs c := by
  intro f hf A Z s vs Q E ok bs zl r hQ
  obtain ⟨a, o, pm, code, doc, ha, ho, hdat, hcd⟩ := G.top.fn d hm
  rw [hx, hf] at ha
  cases ha
  have ho' := bs.base _ _ ho
  have hl := r.length
  refine wpAny_call (codeAny_call_cells (body := d.body) (binds := ns.zip vs) (by show A.depth < 1000; have := ok.2.1; omega) ho' hdat (G.top.nolimit.keeps bs.base) (hcd.keeps bs.base) rfl (hb _ _ _ _ hl) rfl ?_ ?_ hco hgen hk)
  · intro p hp
    have hmem : p.1 ∈ ns := (List.of_mem_zip hp).1
    have := List.all_eq_true.mp hks _ hmem
    show d.scope.names.lookup p.1 = _ ∨ _
    cases q : d.scope.names.lookup p.1 with
    | none => rw [q] at this; cases this
    | some kd =>
      rw [q] at this
      cases kd with
      | «local» => exact .inl rfl
      | cell => exact .inr ⟨q, (cellsFrom_some d.scope.names 0 (s.heap.objs.size + 1) [] [] p.1 rfl).symm.trans this⟩
      | _ => cases this
  · intro s1 x1
    generalize hcells : cellsFrom (s.heap.objs.size + 1) d.scope.names [] = cells at *
    let F : Fi := { sc := d.scope, L := s.heap.objs.size, cells := cells, q := d.name ++ ".<locals>.", fn := some f, cd := code, fr := some s.heap.objs.size, own := true, Z0 := Z, h0 := s.heap }
    have hF : callEnvC (Calls.docDef d.name d.params d.body d.scope pm code doc) s.heap.objs.size f = F.env := by
      unfold callEnvC
      show newEnv d.scope _ _ (cellsFrom (s.heap.objs.size + 1) d.scope.names []) _ _ _ _ _ = _
      rw [hcells]; rfl
    rw [hF] at x1 ⊢
    obtain ⟨h1, tk1, e1, hk1⟩ := x1.done
    have keep1 : Ext0 s s1 := by rw [e1]; exact Ext0.heap hk1
    let W : Addr → Prop := fun b => b = s.heap.objs.size ∨ ∃ y, cells.lookup y = some b
    have wabs : ∀ b, W b → s.heap.get? b = none := by
      rintro b (rfl | ⟨y, hy⟩)
      · exact none_size _
      · exact absent_of_le (Nat.le_of_lt (x1.above y b (mem_of_lookup hy)))
    have z1 : ZG Z s Z s1 := ZG.same zl keep1
    have st : St G F Z W (slots ns xs) s1 := {
      b0 := bs.base
      hk := keep1.keep'
      bare := keep1.bare bs.bare
      zlt := z1.lt
      wlt := by
        rintro b (rfl | ⟨y, hy⟩)
        · obtain ⟨o, es, ep, q, _⟩ := x1.toInCall.ns; exact ⟨o, q⟩
        · obtain ⟨o, q, _⟩ := x1.cell y b hy; exact ⟨o, q⟩
      wn0 := wabs
      disj := fun b zb wb => by obtain ⟨o, q⟩ := zl b zb; rw [wabs b wb] at q; cases q
      z0 := fun b zb => .inl zb
      z1 := fun b zb => zb
      LW := .inl rfl
      kind := hk
      ns := ⟨_, x1.toInCall.ns⟩
      cells := fun _ y hy => by
        have hmem : (y, NameKind.cell) ∈ d.scope.names := mem_of_lookup hy
        have := List.all_eq_true.mp hcs _ hmem
        simp only [show d.scope.names.lookup y = some .cell from hy, beq_self_eq_true, Bool.not_true, Bool.false_or] at this
        rw [cellsFrom_some d.scope.names 0 (s.heap.objs.size + 1) [] [] y rfl, hcells] at this
        obtain ⟨cc, hcc⟩ := Option.isSome_iff_exists.mp this
        exact ⟨cc, _, hcc, x1.cell y cc hcc, .inr ⟨y, hcc⟩⟩
      ownd := fun _ => rfl
      inj := fun _ y y' cc h1 h2 => by
        refine cellsFrom_addr d.scope.names (s.heap.objs.size + 1) [] y y' cc (fun p hp => by simp at hp) (fun p hp => by simp at hp) ?_ ?_
        · rw [hcells]; exact h1
        · rw [hcells]; exact h2
      vals := fun y pv hy => by
        obtain ⟨v, hv, hr⟩ := slots_get r hy
        have hnd' : ((ns.zip vs).map (·.1)).Nodup := by
          exact hnd.sublist (zip_fst_sub _ _)
        have hkk := List.all_eq_true.mp hks _ (slots_mem hy)
        refine ⟨v, ?_, hr.ext keep1 z1⟩
        cases q : d.scope.names.lookup y with
        | none => rw [q] at hkk; cases hkk
        | some kd =>
          rw [q] at hkk
          cases kd with
          | «local» => exact .inl ⟨q, _, x1.toInCall.ns, bindL_get _ _ hnd' hv q⟩
          | cell =>
            have : ((cells).lookup y).isSome = true := by
              rw [← hcells, ← cellsFrom_some d.scope.names 0 (s.heap.objs.size + 1) [] [] y rfl]; exact hkk
            obtain ⟨cc, hcc⟩ := Option.isSome_iff_exists.mp this
            have hcell := x1.cell y cc hcc
            rw [bindC_get _ _ hnd' hv (by show d.scope.names.lookup y ≠ _; rw [q]; intro h; cases h)] at hcell
            exact .inr ⟨q, cc, hcc, hcell⟩
          | _ => cases hkk
      owns := ⟨fun _ => (0 : Nat), And.intro (fun y l hy => absurd hy slots_own) (fun y _ l _ hy => absurd hy slots_own)⟩ }
    refine h.run F (A.deeper F.env) Z W s1 _ _ rfl rfl (OkA.deeper ok) st fun fl s2 Z2 W2 g2 o2 => ?_
    obtain ⟨v, rfl, hr, st2⟩ := o2
    exact hQ v s2 Z2 (keep1.trans g2.ext (fun b wb => .inr (wabs b wb)) (fun _ h => h.elim)) ⟨st2.z1, st2.z0, st2.zlt⟩ hr
end Mine
namespace Mine

def ownerNames : List String := ["enumerate", "zip", "dict_itemiterator", "dict_reverseitemiterator", "odict_iterator", "itertools.zip_longest", "itertools.pairwise"]
def Plain (h : Heap) (I : Addr) : Prop := ∃ o T, h.get? I = some o ∧ o.cls = .type T ∧ ownerNames.contains T = false

/-- what an iterator needs of the steps between its own -/
structure Kp (G : Gc) (Z wr : Addr → Prop) (gs : Nat → Prop) (s s' : Shared) : Prop where
  bs : Bs G s'
  keep : ∀ b o, Z b ∨ wr b → s.heap.get? b = some o → s'.heap.get? b = some o
  gens : ∀ g, gs g → s'.gens[g]? = s.gens[g]?
theorem Kp.refl {G : Gc} {Z wr : Addr → Prop} {gs : Nat → Prop} {s : Shared} (b : Bs G s) : Kp G Z wr gs s s := ⟨b, fun _ _ _ e => e, fun _ _ => rfl⟩
theorem Kp.trans {G : Gc} {Z wr : Addr → Prop} {gs : Nat → Prop} {s s' s'' : Shared} (x : Kp G Z wr gs s s') (y : Kp G Z wr gs s' s'') : Kp G Z wr gs s s'' :=
  ⟨y.bs, fun b o h e => y.keep b o h (x.keep b o h e), fun g h => (y.gens g h).trans (x.gens g h)⟩

structure ItS (G : Gc) (n : Nat) (I : Addr) (Z wr : Addr → Prop) (gs : Nat → Prop) (s : Shared) : Prop where
  mem : wr I
  live : Liv wr s.heap
  apart : ∀ b, Z b → ¬ wr b
  glt : ∀ g, gs g → g < s.gens.size
  plain : Plain s.heap I
  self : ∀ s', Kp G Z wr gs s s' → ∀ A (Q : Value → Shared → Prop) (E : Value → Shared → Prop), OkA n A → Q (.ref I) s' → wpAny (model G.prog G.w) A (pyIter (.ref I)) Q E s'

def ItAt (G : Gc) (n : Nat) (ends : Bool) (I : Addr) (gs : Nat → Prop) : List PV → (Addr → Prop) → (Addr → Prop) → Shared → Prop
  | [], Z, wr, s => ItS G n I Z wr gs s ∧ ∀ s', Kp G Z wr gs s s' → ends = true → ∀ A (Q : Option Value → Shared → Prop) (E : Value → Shared → Prop), OkA n A →
      (∀ s'', ExtG wr gs s' s'' → Q none s'') → wpAny (model G.prog G.w) A (pyNext (.ref I)) Q E s'
  | x :: xs, Z, wr, s => ItS G n I Z wr gs s ∧ ∀ s' Zc, Kp G Z wr gs s s' → (∀ b, Z b → Zc b) → (∀ b, Zc b → ¬ wr b) → Liv Zc s'.heap → ∀ A (Q : Option Value → Shared → Prop) (E : Value → Shared → Prop), OkA n A →
      (∀ v s'' Z'' wr'', ExtG wr gs s' s'' → ZG Zc s' Z'' s'' → Rep Z'' s''.heap x v → ItAt G n ends I gs xs Z'' wr'' s'' → (∀ b, wr'' b → wr b ∨ s'.heap.get? b = none) → Q (some v) s'') →
      wpAny (model G.prog G.w) A (pyNext (.ref I)) Q E s'

theorem ItAt.its {G : Gc} {n : Nat} {ends : Bool} {I : Addr} {gs : Nat → Prop} : ∀ {xs : List PV} {Z wr : Addr → Prop} {s : Shared}, ItAt G n ends I gs xs Z wr s → ItS G n I Z wr gs s
  | [], _, _, _, h => by unfold ItAt at h; exact h.1
  | _ :: _, _, _, _, h => by unfold ItAt at h; exact h.1
theorem ItS.kp {G : Gc} {n : Nat} {I : Addr} {Z wr : Addr → Prop} {gs : Nat → Prop} {s s' : Shared} (x : ItS G n I Z wr gs s) (k : Kp G Z wr gs s s') (hg : s.gens.size ≤ s'.gens.size) : ItS G n I Z wr gs s' where
  mem := x.mem
  live := fun b w => let ⟨o, e⟩ := x.live b w; ⟨o, k.keep b o (.inr w) e⟩
  apart := x.apart
  glt := fun g h => Nat.lt_of_lt_of_le (x.glt g h) hg
  plain := let ⟨o, T, e, r⟩ := x.plain; ⟨o, T, k.keep I o (.inr x.mem) e, r⟩
  self := fun s'' k' => x.self s'' (k.trans k')
theorem ItAt.kp {G : Gc} {n : Nat} {ends : Bool} {I : Addr} {gs : Nat → Prop} : ∀ {xs : List PV} {Z wr : Addr → Prop} {s s' : Shared}, ItAt G n ends I gs xs Z wr s → Kp G Z wr gs s s' → s.gens.size ≤ s'.gens.size → ItAt G n ends I gs xs Z wr s'
  | [], Z, wr, s, s', h, k, hg => by
    unfold ItAt at h ⊢
    exact ⟨h.1.kp k hg, fun s2 k2 => h.2 s2 (k.trans k2)⟩
  | x :: xs, Z, wr, s, s', h, k, hg => by
    unfold ItAt at h ⊢
    exact ⟨h.1.kp k hg, fun s2 Zc k2 => h.2 s2 Zc (k.trans k2)⟩

theorem letOwned {M : Model} {A : Around} {E : Value → Shared → Prop} {Q : Unit → Shared → Prop} {s : Shared} {tgt : Expr} {I : Addr} {v : Value} (p : Plain s.heap I) (h : Q () s) : wpAny M A (letOwnedTupleGo tgt (.ref I) v) Q E s := by
  obtain ⟨o, T, ho, hc, hT⟩ := p
  have key : ∀ (a : Addr), wpAny M A (load I >>= fun o => match o.cls, o.data with
      | .type n, .fields vs =>
        if (ownerNames.contains n && vs[0]? == some (rawInt a)) = true then do
          rule "for.unpacks-the-owned-tuple"
          updateField I 0 .none
        else pure ()
      | _, _ => pure ()) Q E s := fun a => by
    refine wpAny_bind (wpAny_load ho ?_)
    rw [hc]
    cases o.data <;> first | exact wpAny_pure h | skip
    rename_i vs
    show wpAny M A (if (ownerNames.contains T && vs[0]? == some (rawInt a)) = true then _ else _) Q E s
    rw [hT, Bool.false_and, if_neg Bool.false_ne_true]
    exact wpAny_pure h
  unfold letOwnedTupleGo
  cases tgt <;> first | exact wpAny_pure h | skip
  all_goals
    cases v <;> first | exact wpAny_pure h | exact key _

/-- targets -/
structure AsV (G : Gc) (own : Bool) (sc : Scope) (σ : Loc) (t : Expr) (pv : PV) (τ : Loc) : Prop where
  run : ∀ (F : Fi) (A : Around) (Z W : Addr → Prop) (s : Shared) (v : Value) (Q : Unit → Shared → Prop) (E : Value → Shared → Prop), F.sc = sc → F.own = own → A.handled = none → St G F Z W σ s → Rep Z s.heap pv v →
    (∀ s', Gr Z W s Z W s' → St G F Z W τ s' → Q () s') → wpAny (model G.prog G.w) A (assign t F.env v) Q E s

section
variable {G : Gc} {n : Nat} {σ τ : Loc} {sc : Scope} {o : Out}
theorem AsV.name {own : Bool} {x : Str} {pv : PV} {p : Pos} (hk : sc.names.lookup x = some .local ∨ (own = true ∧ sc.names.lookup x = some .cell)) : AsV G own sc σ (.Name x p) pv ((x, .val pv) :: σ) := by
  refine ⟨fun F A Z W s v Q E hsc ho hh st r h => ?_⟩
  exact wpAny_assign_Name (st.putB (by rw [hsc, ho]; exact hk) r fun s' _ => h s')

structure EvI (G : Gc) (n : Nat) (sc : Scope) (σ : Loc) (e : Expr) (xs : List PV) (ends : Bool) : Prop where
  run : ∀ (F : Fi) (A : Around) (Z W : Addr → Prop) (s : Shared) (Q : Value → Shared → Prop) (E : Value → Shared → Prop), F.sc = sc → OkA n A → St G F Z W σ s →
    (∀ I s' Z' wr gs, Ext0 s s' → ZG Z s Z' s' → ItAt G n ends I gs xs Z' wr s' → (∀ b, wr b → s.heap.get? b = none) → (∀ g, gs g → s.gens.size ≤ g) → Q (.ref I) s') →
    wpAny (model G.prog G.w) A (eval e F.env) (fun x s1 => wpAny (model G.prog G.w) A (pyIter x) Q E s1) E s

/-- what a loop leaves: the iterator's own things may be turned -/
structure GrI (Z W wr : Addr → Prop) (gs : Nat → Prop) (s : Shared) (Z' W' : Addr → Prop) (s' : Shared) : Prop where
  ext : ExtG (fun b => W b ∨ wr b) gs s s'
  zs : ∀ b, Z b → Z' b
  zw : ∀ b, Z' b → Z b ∨ W b ∨ wr b ∨ s.heap.get? b = none
  wg : ∀ b, W' b → W b ∨ wr b ∨ s.heap.get? b = none
theorem GrI.trans {Z W wr Z1 W1 wr1 Z2 W2 : Addr → Prop} {gs : Nat → Prop} {s s1 s2 : Shared} (x : GrI Z W wr gs s Z1 W1 s1) (y : GrI Z1 W1 wr1 gs s1 Z2 W2 s2) (hr : ∀ b, wr1 b → wr b ∨ s.heap.get? b = none) : GrI Z W wr gs s Z2 W2 s2 where
  ext := x.ext.trans y.ext (fun b w => w.elim (fun w => (x.wg b w).elim (fun w => .inl (.inl w)) fun q => q.elim (fun w => .inl (.inr w)) .inr) fun w => (hr b w).elim (fun w => .inl (.inr w)) .inr) (fun _ h => .inl h)
  zs := fun b z => y.zs b (x.zs b z)
  zw := fun b z => by
    rcases y.zw b z with z | w | w | d
    · exact x.zw b z
    · exact .inr (x.wg b w)
    · exact (hr b w).elim (fun w => .inr (.inr (.inl w))) fun d => .inr (.inr (.inr d))
    · rcases x.ext.dead d with d | w | w
      · exact .inr (.inr (.inr d))
      · exact .inr (.inl w)
      · exact .inr (.inr (.inl w))
  wg := fun b w => by
    rcases y.wg b w with w | w | d
    · exact x.wg b w
    · exact .inr (hr b w)
    · rcases x.ext.dead d with d | w | w
      · exact .inr (.inr d)
      · exact .inl w
      · exact .inr (.inl w)
theorem GrI.it {Z W wr Z' : Addr → Prop} {gs : Nat → Prop} {s s' : Shared} (e : ExtG wr gs s s') (z : ZG Z s Z' s') : GrI Z W wr gs s Z' W s' :=
  ⟨e.wide (fun b w => .inl (.inr w)) (fun _ h => .inl h), z.sub, fun b h => (z.new b h).elim .inl fun d => .inr (.inr (.inr d)), fun _ w => .inl w⟩
theorem GrI.fr {Z W wr Z' W' : Addr → Prop} {gs : Nat → Prop} {s s' : Shared} (g : Gr Z W s Z' W' s') : GrI Z W wr gs s Z' W' s' :=
  ⟨g.ext.wide (fun b w => .inl (.inl w)) (fun _ h => h.elim), g.zs, fun b h => (g.zw b h).elim .inl fun q => q.elim (fun w => .inr (.inl w)) fun d => .inr (.inr (.inr d)), fun b w => (g.wg b w).elim .inl fun d => .inr (.inr d)⟩

/-- a loop that has begun -/
structure ExF (G : Gc) (n : Nat) (sc : Scope) (σ : Loc) (t : Expr) (xs : List PV) (ends : Bool) (body orelse : List Stmt) (o : Out) : Prop where
  run : ∀ (F : Fi) (A : Around) (Z W Zi : Addr → Prop) (s : Shared) (I : Addr) (wr : Addr → Prop) (gs : Nat → Prop) (R : Result → Shared → Prop), F.sc = sc → F.own = true → OkA n A → St G F Z W σ s → ItAt G n ends I gs xs Zi wr s →
    (∀ b, Zi b → Z b) → (∀ b, Z b → ¬ wr b) → (∀ b, W b → ¬ wr b) → (∀ b, wr b → F.h0.get? b = none) → (∀ fl s' Z' W', GrI Z W wr gs s Z' W' s' → OutAt G F Z' W' o fl s' → R (.ok fl) s') →
    codeAny (model G.prog G.w) A (.forLoop t (.ref I) body orelse F.env) R s

theorem forTurn_at {A : Around} {F : Fi} {t : Expr} {I : Addr} {body orelse : List Stmt} {R : Result → Shared → Prop} {s : Shared}
    (h : wpAny (model G.prog G.w) A (pyNext (.ref I)) (fun r s1 => match r with
      | none => codeAny (model G.prog G.w) A (.block orelse F.env) R s1
      | some v => Plain s1.heap I ∧ wpAny (model G.prog G.w) A (assign t F.env v) (fun _ s2 => wpAny (model G.prog G.w) A (execs body F.env) (fun f s3 => match f with
          | .next | .cont => codeAny (model G.prog G.w) A (.forLoop t (.ref I) body orelse F.env) R s3
          | .brk => R (.ok .next) s3
          | .ret v => R (.ok (.ret v)) s3) (notedBy (model G.prog G.w) A F.env fun e s' => R (.error e) s') s2) (notedBy (model G.prog G.w) A F.env fun e s' => R (.error e) s') s1)
      (notedBy (model G.prog G.w) A F.env fun e s' => R (.error e) s') s) :
    codeAny (model G.prog G.w) A (.forLoop t (.ref I) body orelse F.env) R s := by
  refine codeAny_of_tree ?_
  rw [Around.under_of_weight (c := .forLoop t (.ref I) body orelse F.env) rfl rfl]
  show wpAny _ _ ((forTurn t (.ref I) body orelse F.env).onRaise (fun x => do noteFrame x F.env; theTreesLotGoes x)) _ _ s
  refine wpAny_noted ?_
  simp only [forTurn]
  refine wpAny_bind (wpAny_standAt (wpAny_bind (wpAny_onRaise (wpAny_mono h (fun r s₁ h₁ => ?_) fun _ _ h' => wpAny_standAt h'))))
  cases r with
  | none => exact wpAny_pure ⟨rfl, h₁⟩
  | some v =>
    obtain ⟨p, h₁⟩ := h₁
    refine wpAny_bind (letOwned p ?_)
    refine wpAny_bind (wpAny_mono h₁ (fun _ s₂ h₂ => wpAny_bind (wpAny_mono h₂ (fun f s₃ h₃ => ?_) fun _ _ h' => h')) fun _ _ h' => h')
    cases f with
    | next => exact wpAny_pure ⟨rfl, h₃⟩
    | cont => exact wpAny_pure ⟨rfl, h₃⟩
    | brk => exact wpAny_pure h₃
    | ret v => exact wpAny_pure h₃

theorem VarAt.step {F : Fi} {Z W wr : Addr → Prop} {gs : Nat → Prop} {s s' : Shared} (st : St G F Z W σ s) (e : ExtG wr gs s s') (hw : ∀ b, W b → ¬ wr b) (hc : F.own = false → ∀ x c, F.cells.lookup x = some c → ¬ wr c)
    {y : Str} {v : Value} (r : VarAt F s.heap y v) : VarAt F s'.heap y v := by
  rcases r with ⟨k, m, ⟨o, es, ep, q, r⟩, hm⟩ | ⟨k, c, hcl, oc, h2, h3⟩
  · exact .inl ⟨k, m, ⟨o, es, ep, e.keep _ _ (hw _ st.LW) q, r⟩, hm⟩
  · refine .inr ⟨k, c, hcl, oc, e.keep _ _ ?_ h2, h3⟩
    cases ho : F.own with
    | false => exact hc ho y c hcl
    | true =>
      obtain ⟨c', _, h1, _, h4⟩ := st.cells ho y k
      rw [hcl] at h1; cases h1
      exact hw _ h4
/-- the frame's state behind a step of the iterator's -/
theorem St.step {F : Fi} {Z W Z' wr : Addr → Prop} {gs : Nat → Prop} {s s' : Shared} (st : St G F Z W σ s) (e : ExtG wr gs s s') (z : ZG Z s Z' s') (hw : ∀ b, W b → ¬ wr b) (hz : ∀ b, Z b → ¬ wr b) (h0 : ∀ b, wr b → F.h0.get? b = none)
    (hc : F.own = false → ∀ x c, F.cells.lookup x = some c → ¬ wr c) : St G F Z' W σ s' where
  b0 := st.b0
  hk := fun b o q => e.keep b o (fun w => by rw [h0 b w] at q; cases q) (st.hk b o q)
  bare := e.bare st.bare
  zlt := z.lt
  wlt := fun b w => let ⟨o, q⟩ := st.wlt b w; ⟨o, e.keep b o (hw b w) q⟩
  wn0 := st.wn0
  disj := fun b zb wb => (z.new b zb).elim (fun zb => st.disj b zb wb) fun le => by
    obtain ⟨o, q⟩ := st.wlt b wb
    rw [le] at q; cases q
  z0 := fun b zb => (z.new b zb).elim (fun zb => st.z0 b zb) fun le => .inr (by
    cases q : F.h0.get? b with
    | none => rfl
    | some o => rw [st.hk b o q] at le; cases le)
  z1 := fun b zb => z.sub b (st.z1 b zb)
  LW := st.LW
  kind := st.kind
  ns := by
    obtain ⟨m, o, es, ep, q, r⟩ := st.ns
    exact ⟨m, o, es, ep, e.keep _ _ (hw _ st.LW) q, r⟩
  cells := fun ho y hy => by
    obtain ⟨c, v, h1, ⟨oc, h2, h3⟩, h4⟩ := st.cells ho y hy
    exact ⟨c, v, h1, ⟨oc, e.keep _ _ (hw _ h4) h2, h3⟩, h4⟩
  inj := st.inj
  ownd := st.ownd
  vals := fun y pv hy => by
    obtain ⟨v, h1, h2⟩ := st.vals y pv hy
    exact ⟨v, h1.step st e hw hc, h2.mono z.sub fun b o zb q => e.keep b o (hz b zb) q⟩
  owns := by
    obtain ⟨ad, h1, h2⟩ := st.owns
    refine ⟨ad, fun y xs hy => ?_, h2⟩
    obtain ⟨a1, a2, vs, ⟨k, a3⟩, a4⟩ := h1 y xs hy
    exact ⟨a1, a2.step st e hw hc, vs, ⟨k, e.keep _ _ (hw _ a1) a3⟩, a4.mono z.sub fun b o zb q => e.keep b o (hz b zb) q⟩

theorem noTrue {b : Bool} {P : Prop} (h : b = true) : b = false → P := fun q => by rw [h] at q; cases q

theorem ExF.nil {t : Expr} {body orelse : List Stmt} (h1 : Ex G n sc σ orelse o) : ExF G n sc σ t [] true body orelse o := by
  refine ⟨fun F A Z W Zi s I wr gs R hsc ho ok st it hzi hz hw h0 h => ?_⟩
  refine forTurn_at ?_
  unfold ItAt at it
  have its := it.1
  refine it.2 s (Kp.refl st.bs) rfl A _ _ ok fun s1 e1 => ?_
  have z1 : ZG Z s Z s1 := ⟨fun _ z => z, fun _ z => .inl z, fun b z => let ⟨o, q⟩ := st.zlt b z; ⟨o, e1.keep b o (hz b z) q⟩⟩
  have st1 : St G F Z W σ s1 := st.step e1 z1 hw hz h0 (noTrue ho)
  refine codeAny_block (h1.run F A Z W s1 _ _ hsc ho ok st1 fun fl s2 Z2 W2 g2 o2 => ?_)
  exact h fl s2 Z2 W2 ((GrI.it e1 z1).trans (GrI.fr (wr := wr) g2) fun b w => .inl w) o2

/-- one turn: what is asked of the body -/
theorem ExF.turn {t : Expr} {x : PV} {xs : List PV} {ends : Bool} {body orelse : List Stmt} {τ : Loc} {o1 : Out} (ha : AsV G true sc σ t x τ) (hb : Ex G n sc τ body o1)
    (hn : ∀ τ', o1 = .next τ' → ExF G n sc τ' t xs ends body orelse o) (hc : ∀ τ', o1 = .cont τ' → ExF G n sc τ' t xs ends body orelse o) (hk : ∀ τ', o1 = .brk τ' → o = .next τ') (hr : ∀ p, o1 = .ret p → o = .ret p) :
    ExF G n sc σ t (x :: xs) ends body orelse o := by
  refine ⟨fun F A Z W Zi s I wr gs R hsc ho ok st it hzi hz hw h0 h => ?_⟩
  refine forTurn_at ?_
  unfold ItAt at it
  have its := it.1
  refine it.2 s Z (Kp.refl st.bs) hzi hz st.zlt A _ _ ok fun v s1 Z1 wr1 e1 z1 r1 it1 hwr1 => ?_
  have its1 := it1.its
  refine ⟨its1.plain, ?_⟩
  have st1 : St G F Z1 W σ s1 := st.step e1 z1 hw hz h0 (noTrue ho)
  have g1 : GrI Z W wr gs s Z1 W s1 := GrI.it e1 z1
  have hw1 : ∀ b, W b → ¬ wr1 b := fun b wb q => (hwr1 b q).elim (hw b wb) fun d => by
    obtain ⟨o, e⟩ := st.wlt b wb
    rw [d] at e; cases e
  refine ha.run F A Z1 W s1 v _ _ hsc ho ok.1 st1 r1 fun s2 g2 st2 => ?_
  refine hb.run F A Z1 W s2 _ _ hsc ho ok st2 fun fl s3 Z3 W3 g3 o3 => ?_
  have g13 := g2.trans g3
  have g03 := g1.trans (GrI.fr (wr := wr) (gs := gs) g13) fun b w => .inl w
  have again : ∀ τ', St G F Z3 W3 τ' s3 → ExF G n sc τ' t xs ends body orelse o → codeAny (model G.prog G.w) A (.forLoop t (.ref I) body orelse F.env) R s3 := fun τ' st3 ih => by
    have kp : Kp G Z1 wr1 gs s1 s3 := ⟨st3.bs, fun b o q e => g13.ext.keep b o (fun wb => q.elim (fun z => st1.disj b z wb) (hw1 b wb)) e, fun g hg => by
      have hlt := its1.glt g hg
      obtain ⟨x, hx⟩ : ∃ x, s1.gens[g]? = some x := ⟨_, Array.getElem?_eq_getElem hlt⟩
      rw [hx]; exact g13.ext.gens g x (fun f => f) hx⟩
    refine ih.run F A Z3 W3 Z1 s3 I wr1 gs R hsc ho ok st3 (it1.kp kp g13.ext.gsize) g13.zs ?_ ?_ ?_ fun fl s4 Z4 W4 g4 o4 => h fl s4 Z4 W4 (g03.trans g4 hwr1) o4
    · intro b z q
      rcases g13.zw b z with z | w | d
      · exact its1.apart b z q
      · exact hw1 b w q
      · obtain ⟨o, e⟩ := its1.live b q; rw [d] at e; cases e
    · intro b w q
      rcases g13.wg b w with w | d
      · exact hw1 b w q
      · obtain ⟨o, e⟩ := its1.live b q; rw [d] at e; cases e
    · intro b q
      rcases hwr1 b q with w | d
      · exact h0 b w
      · cases q : F.h0.get? b with
        | none => rfl
        | some o => rw [st.hk b o q] at d; cases d
  cases o1 with
  | next τ' => obtain ⟨rfl, st3⟩ := o3; exact again τ' st3 (hn τ' rfl)
  | cont τ' => obtain ⟨rfl, st3⟩ := o3; exact again τ' st3 (hc τ' rfl)
  | brk τ' =>
    obtain ⟨rfl, st3⟩ := o3
    have := hk τ' rfl
    subst this
    exact h _ s3 Z3 W3 g03 ⟨rfl, st3⟩
  | ret p =>
    obtain ⟨v', rfl, r3, st3⟩ := o3
    have := hr p rfl
    subst this
    exact h _ s3 Z3 W3 g03 ⟨v', rfl, r3, st3⟩
theorem ExF.next {t : Expr} {x : PV} {xs : List PV} {ends : Bool} {body orelse : List Stmt} {τ τ' : Loc} (ha : AsV G true sc σ t x τ) (hb : Ex G n sc τ body (.next τ')) (h : ExF G n sc τ' t xs ends body orelse o) :
    ExF G n sc σ t (x :: xs) ends body orelse o := ExF.turn ha hb (fun _ e => by cases e; exact h) (fun _ e => by cases e) (fun _ e => by cases e) (fun _ e => by cases e)
theorem ExF.brk {t : Expr} {x : PV} {xs : List PV} {ends : Bool} {body orelse : List Stmt} {τ τ' : Loc} (ha : AsV G true sc σ t x τ) (hb : Ex G n sc τ body (.brk τ')) :
    ExF G n sc σ t (x :: xs) ends body orelse (.next τ') := ExF.turn ha hb (fun _ e => by cases e) (fun _ e => by cases e) (fun _ e => by cases e; rfl) (fun _ e => by cases e)
theorem ExF.ret {t : Expr} {x p : PV} {xs : List PV} {ends : Bool} {body orelse : List Stmt} {τ : Loc} (ha : AsV G true sc σ t x τ) (hb : Ex G n sc τ body (.ret p)) :
    ExF G n sc σ t (x :: xs) ends body orelse (.ret p) := ExF.turn ha hb (fun _ e => by cases e) (fun _ e => by cases e) (fun _ e => by cases e) (fun _ e => by cases e; rfl)
theorem ExF.weak {t : Expr} {xs : List PV} {ends : Bool} {body orelse : List Stmt} (h1 : ExF G n sc τ t xs ends body orelse o) (h : ∀ y sl, τ.lookup y = some sl → σ.lookup y = some sl) : ExF G n sc σ t xs ends body orelse o :=
  ⟨fun F A Z W Zi s I wr gs R hsc ho ok st => h1.run F A Z W Zi s I wr gs R hsc ho ok (st.weak h)⟩

theorem Ex1.for_ {t e : Expr} {xs : List PV} {ends : Bool} {body orelse : List Stmt} {pos} (h1 : EvI G n sc σ e xs ends) (h2 : ExF G n sc σ t xs ends body orelse o) (hs : ∀ env x, foldedSetIterable e env x = pure x) :
    Ex1 G n sc σ (.For t e body orelse pos) o := by
  refine ⟨fun F A Z W s Q E hsc ho ok st h => ?_⟩
  refine wpAny_For (h1.run F A Z W s _ _ hsc ok st fun I s1 Z1 wr gs e1 z1 it hwr hgs => ?_) (hs _)
  have its := it.its
  refine h2.run F A Z1 W Z1 s1 I wr gs _ hsc ho ok (st.ext e1 z1) it (fun _ z => z) its.apart (fun b w q => ?_) (fun b q => ?_) fun fl s2 Z2 W2 g2 o2 => ?_
  · obtain ⟨o, e⟩ := st.wlt b w
    rw [hwr b q] at e; cases e
  · cases e : F.h0.get? b with
    | none => rfl
    | some o => have := hwr b q; rw [st.hk b o e] at this; cases this
  · have ga : Gr Z W s Z1 W s1 := Gr.of e1 z1
    refine h fl s2 Z2 W2 ⟨ga.ext.trans g2.ext (fun b w => w.elim .inl fun w => .inr (hwr b w)) (fun g hg => .inr (hgs g hg)), fun b z => g2.zs b (ga.zs b z), fun b z => ?_, fun b w => ?_⟩ o2
    · rcases g2.zw b z with z | w | w | d
      · exact ga.zw b z
      · exact .inr (.inl w)
      · exact .inr (.inr (hwr b w))
      · exact .inr (.inr (Ext0.dead e1 d))
    · rcases g2.wg b w with w | w | d
      · exact .inl w
      · exact .inr (hwr b w)
      · exact .inr (Ext0.dead e1 d)
end
end Mine
namespace Mine

theorem kpHeap {G : Gc} {Z wr : Addr → Prop} {gs : Nat → Prop} {s s' : Shared} (k : Kp G Z wr gs s s') (I : Addr) (w : wr I) : ∀ o, s.heap.get? I = some o → s'.heap.get? I = some o := fun o e => k.keep I o (.inr w) e

/-- an iterator of the library's, its items known -/
theorem ItAt.ofWalks {G : Gc} {n : Nat} {I : Addr} {fp : List Addr} {m : Nat} {P : Nat → Value → Prop} {S : Nat → Heap → Prop} {T : String} (W : ∀ A : Around, A.handled = none → Walks G.prog G.w A I fp [I] m P S)
    (xs : List PV) (hlen : xs.length = m) (hT : ownerNames.contains T = false) (hS : ∀ i h, S i h → ∃ o, h.get? I = some o ∧ o.cls = .type T) {Z0 : Addr → Prop} {s0 : Shared} (hfp : ∀ b ∈ fp, b = I ∨ Z0 b)
    (hP : ∀ i x v, xs[i]? = some x → P i v → Rep Z0 s0.heap x v) :
    ∀ (k i : Nat) (Z : Addr → Prop) (s : Shared), m - i = k → i ≤ m → S i s.heap → (∀ b, Z0 b → Z b) → (∀ b o, Z0 b → s0.heap.get? b = some o → s.heap.get? b = some o) → (∀ b, Z b → b ≠ I) →
      ItAt G n true I (fun _ => False) (xs.drop i) Z (fun b => b = I) s := by
  have st : ∀ (Z : Addr → Prop) (s s' : Shared) i, (∀ b, Z0 b → Z b) → S i s.heap → Kp G Z (fun b => b = I) (fun _ => False) s s' → S i s'.heap := fun Z s s' i hz h k =>
    (W { } rfl).frame i _ _ h fun b hb o e => k.keep b o ((hfp b hb).elim .inr fun z => .inl (hz b z)) e
  have its : ∀ i (Z : Addr → Prop) (s : Shared), S i s.heap → (∀ b, Z0 b → Z b) → (∀ b, Z b → b ≠ I) → ItS G n I Z (fun b => b = I) (fun _ => False) s := fun i Z s h hz hI =>
    { mem := rfl
      live := fun b e => by
        have e : b = I := e
        subst e; obtain ⟨o, q, _⟩ := hS i _ h; exact ⟨o, q⟩
      apart := hI
      glt := fun _ h => h.elim
      plain := let ⟨o, q, c⟩ := hS i _ h; ⟨o, T, q, c, hT⟩
      self := fun s' k A Q E ok q => (W A ok.1).self i s' Q E (st Z s s' i hz h k) q }
  intro k
  induction k with
  | zero =>
    intro i Z s hk hi hs hz hz0 hI
    have : i = m := by omega
    subst this
    rw [List.drop_of_length_le (by omega)]
    unfold ItAt
    refine ⟨its _ Z s hs hz hI, fun s' k _ A Q E ok h => ?_⟩
    refine (W A ok.1).done s' Q E (st Z s s' _ hz hs k) fun h' tk hk' => ?_
    refine h _ ⟨fun b o nb e => hk' b o (fun q => nb (List.mem_singleton.mp q)) e, Nat.le_refl _, fun _ _ _ e => e, rfl, fun x => x⟩
  | succ k ih =>
    intro i Z s hk hi hs hz hz0 hI
    have hlt : i < xs.length := by omega
    rw [List.drop_eq_getElem_cons hlt]
    unfold ItAt
    refine ⟨its _ Z s hs hz hI, fun s' Zc k' hzc hzI lv A Q E ok h => ?_⟩
    refine (W A ok.1).item i s' Q E (by omega) (st Z s s' _ hz hs k') fun v h' tk hp hs' hk' => ?_
    have ext : ExtG (fun b => b = I) (fun _ => False) s' { s' with heap := h', toks := tk } := ⟨fun b o nb e => hk' b o (fun q => nb (List.mem_singleton.mp q)) e, Nat.le_refl _, fun _ _ _ e => e, rfl, fun x => x⟩
    have zg : ZG Zc s' Zc { s' with heap := h', toks := tk } := ⟨fun _ z => z, fun _ z => .inl z, fun b z => let ⟨o, e⟩ := lv b z; ⟨o, ext.keep b o (hzI b z) e⟩⟩
    have kz : ∀ b o, Z0 b → s0.heap.get? b = some o → h'.get? b = some o := fun b o z e => ext.keep b o (hI b (hz b z)) (k'.keep b o (.inl (hz b z)) (hz0 b o z e))
    refine h v _ Zc (fun b => b = I) ext zg ?_ ?_ fun b e => .inl e
    · exact (hP i xs[i] v (List.getElem?_eq_getElem hlt) hp).mono (fun b z => hzc b (hz b z)) kz
    · exact ih (i + 1) Zc _ (by omega) (by omega) hs' (fun b z => hzc b (hz b z)) kz hzI

section
variable {G : Gc} {n : Nat} {σ : Loc} {sc : Scope}

theorem EvI.list {e : Expr} {xs : List PV} (h1 : Ev G n sc σ e (.list xs)) : EvI G n sc σ e xs true := by
  refine ⟨fun F A Z W s Q E hsc ok st h => ?_⟩
  refine h1.run F A Z W s _ _ hsc ok st fun v s1 Z1 e1 z1 r1 => ?_
  simp only [Rep] at r1
  obtain ⟨a, vs, rfl, za, hL, rs⟩ := r1
  refine wpAny_pyIter_list hL ?_
  have e2 := Ext0.push s1 { cls := .type "list_iterator", data := .fields #[.ref a, .int 0 0] } s1.toks
  have z2 := ZG.same z1.lt e2
  have hne : a ≠ s1.heap.objs.size := fun q => not_live z1.lt (none_size _) (q ▸ za)
  have it := ItAt.ofWalks (G := G) (n := n) (T := "list_iterator") (fun A hA => Walks.list (prog := G.prog) (w := G.w) (A := A) hA s1.heap.objs.size a hne vs.toArray) xs (by rw [List.size_toArray, rs.length]) (by decide)
    (fun i h q => by obtain ⟨o, h1, h2, _⟩ := q.1; exact ⟨o, h1, h2⟩) (Z0 := Z1) (s0 := s1) (fun b hb => by
      rcases List.mem_cons.mp hb with rfl | hb
      · exact .inl rfl
      · rcases List.mem_cons.mp hb with rfl | hb
        · exact .inr za
        · cases hb) (fun i x v hx hv => by
      obtain ⟨v', hv', rv⟩ := rs.get hx
      have hv : vs[i]? = some v := by simpa using hv
      rw [hv'] at hv; cases hv; exact rv)
    vs.toArray.size 0 Z1 _ rfl (Nat.zero_le _) ⟨⟨_, Heap.get?_push_size _ rfl, rfl, rfl⟩, hL.push _⟩ (fun _ z => z) (fun b o z q => e2.keep' b o q) (fun b z q => not_live z1.lt (none_size _) (q ▸ z))
  exact h _ _ Z1 _ _ (e1.trans' e2) (z1.trans z2 e1) it (fun b q => by have q : b = _ := q; subst q; exact Ext0.dead e1 (none_size _)) (fun g q => q.elim)
theorem EvI.tup {e : Expr} {xs : List PV} (h1 : Ev G n sc σ e (.tup xs)) : EvI G n sc σ e xs true := by
  refine ⟨fun F A Z W s Q E hsc ok st h => ?_⟩
  refine h1.run F A Z W s _ _ hsc ok st fun v s1 Z1 e1 z1 r1 => ?_
  simp only [Rep] at r1
  obtain ⟨a, vs, rfl, za, hL, rs⟩ := r1
  refine wpAny_pyIter_tuple hL ?_
  have e2 := Ext0.push s1 { cls := .type "tuple_iterator", data := .fields #[.ref a, .int 0 0] } s1.toks
  have z2 := ZG.same z1.lt e2
  have hne : a ≠ s1.heap.objs.size := fun q => not_live z1.lt (none_size _) (q ▸ za)
  have it := ItAt.ofWalks (G := G) (n := n) (T := "tuple_iterator") (fun A hA => Walks.tuple (prog := G.prog) (w := G.w) (A := A) hA s1.heap.objs.size a hne vs.toArray) xs (by rw [List.size_toArray, rs.length]) (by decide)
    (fun i h q => by obtain ⟨o, h1, h2, _⟩ := q.1; exact ⟨o, h1, h2⟩) (Z0 := Z1) (s0 := s1) (fun b hb => by
      rcases List.mem_cons.mp hb with rfl | hb
      · exact .inl rfl
      · rcases List.mem_cons.mp hb with rfl | hb
        · exact .inr za
        · cases hb) (fun i x v hx hv => by
      obtain ⟨v', hv', rv⟩ := rs.get hx
      have hv : vs[i]? = some v := by simpa using hv
      rw [hv'] at hv; cases hv; exact rv)
    vs.toArray.size 0 Z1 _ rfl (Nat.zero_le _) ⟨⟨_, Heap.get?_push_size _ rfl, rfl, rfl⟩, hL.push _⟩ (fun _ z => z) (fun b o z q => e2.keep' b o q) (fun b z q => not_live z1.lt (none_size _) (q ▸ z))
  exact h _ _ Z1 _ _ (e1.trans' e2) (z1.trans z2 e1) it (fun b q => by have q : b = _ := q; subst q; exact Ext0.dead e1 (none_size _)) (fun g q => q.elim)

def signs (c : Tx) : List PV := c.map fun x => .str [x]
theorem EvI.str {e : Expr} {c : Tx} (h1 : Ev G n sc σ e (.str c)) : EvI G n sc σ e (signs c) true := by
  refine ⟨fun F A Z W s Q E hsc ok st h => ?_⟩
  refine h1.run F A Z W s _ _ hsc ok st fun v s1 Z1 e1 z1 r1 => ?_
  simp only [Rep] at r1
  obtain ⟨t, rfl⟩ := r1
  have fin : ∀ (T : String) (S : Nat → Heap → Prop), ownerNames.contains T = false → (∀ i h, S i h → ∃ o, h.get? s1.heap.objs.size = some o ∧ o.cls = .type T) → (o : Obj) → o.isFreed = false → S 0 (s1.heap.push o) →
      (∀ A' : Around, A'.handled = none → Walks G.prog G.w A' s1.heap.objs.size [s1.heap.objs.size] [s1.heap.objs.size] (mkS c).cps.size (SignAt (mkS c)) S) → Q (.ref s1.heap.objs.size) { s1 with heap := s1.heap.push o } := by
    intro T S hT hS o hfr hs0 hw
    have e2 := Ext0.push s1 o s1.toks
    have z2 := ZG.same z1.lt e2
    have it := ItAt.ofWalks (G := G) (n := n) (T := T) hw (signs c) (by simp [signs, mkS]) hT hS (Z0 := Z1) (s0 := s1) (fun b hb => .inl (List.mem_singleton.mp hb)) (fun i x v hx hv => by
        obtain ⟨cc, u, h1, rfl⟩ := hv
        have h1 : c[i]? = some cc := by simpa [mkS] using h1
        simp only [signs, List.getElem?_map, h1, Option.map_some, Option.some.injEq] at hx
        subst hx
        simp [Rep, mkS])
      (mkS c).cps.size 0 Z1 { s1 with heap := s1.heap.push o } rfl (Nat.zero_le _) hs0 (fun _ z => z) (fun b o z q => e2.keep' b o q) (fun b z q => not_live z1.lt (none_size _) (q ▸ z))
    exact h _ _ Z1 _ _ (e1.trans' e2) (z1.trans z2 e1) it (fun b q => by have q : b = _ := q; subst q; exact Ext0.dead e1 (none_size _)) (fun g q => q.elim)
  cases ha : (mkS c).cps.all (· < 128)
  · exact wpAny_pyIter_wide ha (fin "str_iterator" _ (by decide) (fun i h q => by obtain ⟨o, h1, h2, _⟩ := q; exact ⟨o, h1, h2⟩) _ rfl ⟨_, Heap.get?_push_size _ rfl, rfl, rfl⟩ fun A' hA => Walks.strWide hA _ (mkS c) t)
  · exact wpAny_pyIter_ascii ha (fin "str_ascii_iterator" _ (by decide) (fun i h q => by obtain ⟨o, h1, h2, _⟩ := q; exact ⟨o, h1, h2⟩) _ rfl ⟨_, Heap.get?_push_size _ rfl, rfl, rfl⟩ fun A' hA => Walks.strAscii hA _ (mkS c) t)

theorem EvI.rng {e : Expr} {lo hi st : Int} {m : Nat} (h1 : Ev G n sc σ e (.rng lo hi st)) (hs : Builtin.Range.small lo hi st = true) (hm : Builtin.Range.rangeSize lo hi st = m) :
    EvI G n sc σ e ((List.range m).map fun (k : Nat) => .int (lo + (k : Int) * st)) true := by
  refine ⟨fun F A Z W s Q E hsc ok st' h => ?_⟩
  refine h1.run F A Z W s _ _ hsc ok st' fun v s1 Z1 e1 z1 r1 => ?_
  simp only [Rep] at r1
  obtain ⟨a, t, u, w, rfl, za, hr⟩ := r1
  refine wpAny_pyIter_range hr hs ?_
  have e2 := Ext0.push s1 { cls := .type "range_iterator", data := .fields #[rawInt lo, rawInt (Builtin.Range.rangeSize lo hi st), rawInt st] } s1.toks
  have z2 := ZG.same z1.lt e2
  have it := ItAt.ofWalks (G := G) (n := n) (T := "range_iterator") (fun A hA => Walks.range (prog := G.prog) (w := G.w) (A := A) hA s1.heap.objs.size lo st m) ((List.range m).map fun (k : Nat) => .int (lo + (k : Int) * st)) (by simp) (by decide)
    (fun i h q => ⟨_, q, rfl⟩) (Z0 := Z1) (s0 := s1) (fun b hb => .inl (List.mem_singleton.mp hb)) (fun i x v hx hv => by
      obtain ⟨t, rfl⟩ := hv
      simp only [List.getElem?_map] at hx
      obtain ⟨j, hj, rfl⟩ := Option.map_eq_some_iff.mp hx
      have : j = i := by
        have := List.getElem?_range (n := m) (i := i)
        obtain ⟨hlt, e⟩ := List.getElem?_eq_some_iff.mp hj
        simpa using e.symm
      subst this
      simp [Rep])
    m 0 Z1 { s1 with heap := s1.heap.push { cls := .type "range_iterator", data := .fields #[rawInt lo, rawInt (Builtin.Range.rangeSize lo hi st), rawInt st] } } rfl (Nat.zero_le _) (by show IsRangeIter _ _ _ _ _; rw [hm]; simpa using Heap.get?_push_size _ rfl) (fun _ z => z) (fun b o z q => e2.keep' b o q) (fun b z q => not_live z1.lt (none_size _) (q ▸ z))
  exact h _ _ Z1 _ _ (e1.trans' e2) (z1.trans z2 e1) it (fun b q => by have q : b = _ := q; subst q; exact Ext0.dead e1 (none_size _)) (fun g q => q.elim)
end
end Mine
namespace Mine

/-- the captured names' cells -/
def clGo (cells : List (Str × Addr)) : List (Str × NameKind) → List (Str × Addr) → List (Str × Addr)
  | [], acc => acc
  | (n, k) :: r, acc => clGo cells r (if k == .free then (match cells.lookup n with | some a => (n, a) :: acc | none => acc) else acc)

theorem closureGo (env : Env) : ∀ (names : List (Str × NameKind)) (acc : List (Str × Addr)), (∀ p ∈ names, p.2 = .free → ∃ a, env.cells.lookup p.1 = some a) →
    (forIn names acc fun x cs => (if (x.2 == NameKind.free) = true then do let a ← cellOf env x.1; pure (ForInStep.yield ((x.1, a) :: cs)) else pure (ForInStep.yield cs) : Sem (ForInStep (List (Str × Addr))))) = pure (clGo env.cells names acc)
  | [], acc, _ => rfl
  | (n, k) :: r, acc, h => by
    rw [List.forIn_cons]
    unfold clGo
    by_cases hk : k == NameKind.free
    · obtain ⟨a, ha⟩ := h (n, k) (.head _) (beq_iff_eq.mp hk)
      dsimp only at ha ⊢
      rw [if_pos hk, if_pos hk]
      unfold cellOf
      rw [ha]
      exact closureGo env r _ fun p hp => h p (.tail _ hp)
    · dsimp only
      rw [if_neg hk, if_neg hk]
      exact closureGo env r _ fun p hp => h p (.tail _ hp)
theorem closure_eq {scope : Scope} {env : Env} (h : ∀ p ∈ scope.names, p.2 = .free → ∃ a, env.cells.lookup p.1 = some a) : closureFor scope env = pure (clGo env.cells scope.names []) := by
  have := closureGo env scope.names [] h
  unfold closureFor
  first
    | exact this
    | (show (forIn scope.names [] _ >>= _) = _
       have e := this
       rw [show (fun (x : Str × NameKind) (cs : List (Str × Addr)) => (if (x.2 == NameKind.free) = true then do let a ← cellOf env x.1; pure (ForInStep.yield ((x.1, a) :: cs)) else pure (ForInStep.yield cs) : Sem (ForInStep (List (Str × Addr))))) = _ from rfl] at e
       simp only [bind_pure]
       exact e)
theorem clGo_get (cells : List (Str × Addr)) : ∀ (names : List (Str × NameKind)) (acc : List (Str × Addr)) (x : Str) (a : Addr), (clGo cells names acc).lookup x = some a → (cells.lookup x = some a ∧ (x, NameKind.free) ∈ names) ∨ acc.lookup x = some a
  | [], acc, x, a, h => .inr h
  | (n, k) :: r, acc, x, a, h => by
    unfold clGo at h
    rcases clGo_get cells r _ x a h with h | h
    · exact .inl ⟨h.1, .tail _ h.2⟩
    · split at h
      · rename_i hk
        split at h
        · rename_i b hb
          by_cases q : x = n
          · subst q; rw [lookup_cons_self] at h; cases h; exact .inl ⟨hb, by rw [beq_iff_eq.mp hk]; exact .head _⟩
          · rw [lookup_cons_ne _ _ q] at h; exact .inr h
        · exact .inr h
      · exact .inr h
theorem clGo_has (cells : List (Str × Addr)) : ∀ (names : List (Str × NameKind)) (acc : List (Str × Addr)) (x : Str) (a : Addr), cells.lookup x = some a → ((x, NameKind.free) ∈ names ∨ acc.lookup x = some a) → (∀ b, acc.lookup x = some b → b = a) →
    (clGo cells names acc).lookup x = some a
  | [], acc, x, a, hc, h, hu => by
    rcases h with h | h
    · cases h
    · exact h
  | (n, k) :: r, acc, x, a, hc, h, hu => by
    unfold clGo
    by_cases hk : k == NameKind.free
    · rw [if_pos hk]
      by_cases q : n = x
      · subst q
        rw [hc]
        exact clGo_has cells r _ n a hc (.inr (lookup_cons_self ..)) fun b hb => by rw [lookup_cons_self] at hb; cases hb; rfl
      · have q' : x ≠ n := fun e => q e.symm
        have mem : (x, NameKind.free) ∈ r ∨ acc.lookup x = some a := h.imp (fun h => by
          rcases List.mem_cons.mp h with e | h
          · cases e; exact absurd rfl q
          · exact h) id
        split
        · exact clGo_has cells r _ x a hc (mem.imp id fun h => by rw [lookup_cons_ne _ _ q']; exact h) fun b hb => hu b (by rw [lookup_cons_ne _ _ q'] at hb; exact hb)
        · exact clGo_has cells r _ x a hc mem hu
    · rw [if_neg hk]
      refine clGo_has cells r _ x a hc (h.imp (fun h => ?_) id) hu
      rcases List.mem_cons.mp h with e | h
      · cases e; exact absurd rfl hk
      · exact h

/-- the comprehension's own table: what it captures are cells -/
def relab (scope sc : Scope) : Scope :=
  { scope with names := scope.names.map fun (n, k) => if (k == .free && sc.kind == .function && sc.names.lookup n == some .cell) then (n, .cell) else (n, k) }

def compFi (F : Fi) (scope : Scope) (C : Addr) (Z0 : Addr → Prop) (h0 : Heap) : Fi :=
  { sc := relab scope F.sc, L := C, cells := clGo F.cells scope.names [], q := F.q, fn := none, cd := F.cd, fr := F.fr, own := false, Z0 := Z0, h0 := h0 }

theorem compFi_env (F : Fi) (scope : Scope) (C : Addr) (Z0 : Addr → Prop) (h0 : Heap) : compEnvC scope (clGo F.cells scope.names []) C F.env = (compFi F scope C Z0 h0).env := rfl

/-- the tests of one clause -/
inductive Tests (G : Gc) (n : Nat) (sc : Scope) (σ : Loc) : List Expr → Bool → Prop
  | nil : Tests G n sc σ [] true
  | one {t : Expr} {b : Bool} : EvT G n sc σ t b → Tests G n sc σ [t] b
theorem Tests.run {G : Gc} {n : Nat} {sc : Scope} {σ : Loc} {ifs : List Expr} {b : Bool} (x : Tests G n sc σ ifs b) {F : Fi} {A : Around} {Z W : Addr → Prop} {s : Shared} {Q : Bool → Shared → Prop} {E : Value → Shared → Prop} (hsc : F.sc = sc) (ok : OkA n A)
    (st : St G F Z W σ s) (h : ∀ s' Z', Ext0 s s' → ZG Z s Z' s' → Q b s') :
    wpAny (model G.prog G.w) A (forIn ifs true fun c r => if r = true then do let ok ← isTrue c F.env (eval c F.env); pure (ForInStep.yield ok) else pure (ForInStep.yield r)) Q E s := by
  cases x with
  | nil => exact wpAny_tests_nil (h s Z (ExtG.refl ..) (ZG.refl st.zlt))
  | one h1 => exact wpAny_tests_one (h1.run F A Z W s _ _ hsc ok st h)

/-- what the items give -/
inductive CompOk (G : Gc) (n : Nat) (sc : Scope) (σ : Loc) (t : Expr) (ifs : List Expr) (elt : Expr) : List PV → List PV → Prop
  | nil : CompOk G n sc σ t ifs elt [] []
  | cons {x y : PV} {xs ys : List PV} {τ : Loc} {b : Bool} : AsV G false sc σ t x τ → Tests G n sc τ ifs b → (b = true → Ev G n sc τ elt y) → CompOk G n sc σ t ifs elt xs ys → (∀ y sl, σ.lookup y = some sl → τ.lookup y = some sl) →
      CompOk G n sc σ t ifs elt (x :: xs) (if b then y :: ys else ys)

theorem CompOk.len {G : Gc} {n : Nat} {sc : Scope} {σ : Loc} {t : Expr} {ifs : List Expr} {elt : Expr} {xs ys : List PV} (h : CompOk G n sc σ t ifs elt xs ys) : ys.length ≤ xs.length := by
  induction h with
  | nil => exact Nat.le_refl _
  | @cons _ _ _ _ _ b _ _ _ _ _ ih => cases b <;> simp <;> omega

section
variable {G : Gc} {n : Nat} {σ τ : Loc} {sc : Scope}

theorem compTurn_list' (elt target iter : Expr) (ifs : List Expr) (scope : Scope) (pos : Pos) (it acc : Value) (env : Env) :
    compTurn (.ListComp elt [⟨target, iter, ifs, 0⟩] scope pos) 0 it acc env = (do
      standAt iter.pos
      match ← pyNext it with
      | none => pure (.done .next)
      | some v =>
        letOwnedTupleGo target it v
        assign target env v
        let mut ok := true
        for c in ifs do
          if ok then ok ← isTrue c env (eval c env)
        if ok then
          (do let _ ← call (.builtin "list.append") [acc, ← eval elt env])
        again (.compLoop (.ListComp elt [⟨target, iter, ifs, 0⟩] scope pos) 0 it acc env)) := by rfl

theorem compLoop_at {A : Around} {env : Env} {elt t iter : Expr} {ifs : List Expr} {scope : Scope} {pos : Pos} {I D : Addr} {R : Result → Shared → Prop} {s : Shared}
    (h : wpAny (model G.prog G.w) A (pyNext (.ref I)) (fun r s1 => match r with
      | none => R (.ok .next) s1
      | some v => Plain s1.heap I ∧ wpAny (model G.prog G.w) A (assign t env v) (fun _ s2 =>
          wpAny (model G.prog G.w) A (forIn ifs true fun c r => if r = true then do let ok ← isTrue c env (eval c env); pure (ForInStep.yield ok) else pure (ForInStep.yield r)) (fun ok s3 =>
            if ok = true then wpAny (model G.prog G.w) A (eval elt env) (fun x s4 =>
              wpAny (model G.prog G.w) A (call (.builtin "list.append") [.ref D, x]) (fun _ s5 => codeAny (model G.prog G.w) A (.compLoop (.ListComp elt [⟨t, iter, ifs, 0⟩] scope pos) 0 (.ref I) (.ref D) env) R s5) (notedBy (model G.prog G.w) A env fun e s' => R (.error e) s') s4) (notedBy (model G.prog G.w) A env fun e s' => R (.error e) s') s3
            else codeAny (model G.prog G.w) A (.compLoop (.ListComp elt [⟨t, iter, ifs, 0⟩] scope pos) 0 (.ref I) (.ref D) env) R s3) (notedBy (model G.prog G.w) A env fun e s' => R (.error e) s') s2) (notedBy (model G.prog G.w) A env fun e s' => R (.error e) s') s1)
      (notedBy (model G.prog G.w) A env fun e s' => R (.error e) s') s) :
    codeAny (model G.prog G.w) A (.compLoop (.ListComp elt [⟨t, iter, ifs, 0⟩] scope pos) 0 (.ref I) (.ref D) env) R s := by
  refine codeAny_of_tree ?_
  rw [Around.under_of_weight (c := .compLoop (.ListComp elt [⟨t, iter, ifs, 0⟩] scope pos) 0 (.ref I) (.ref D) env) rfl rfl]
  show wpAny _ A ((compTurn (.ListComp elt [⟨t, iter, ifs, 0⟩] scope pos) 0 (.ref I) (.ref D) env).onRaise (fun x => do noteFrame x env; theTreesLotGoes x)) _ _ s
  refine wpAny_noted ?_
  rw [compTurn_list']
  refine wpAny_bind (wpAny_standAt (wpAny_bind (wpAny_mono h (fun r s₁ h₁ => ?_) fun _ _ h' => h')))
  cases r with
  | none => exact wpAny_pure h₁
  | some v =>
    obtain ⟨p, h₁⟩ := h₁
    refine wpAny_bind (letOwned p ?_)
    refine wpAny_bind (wpAny_mono h₁ (fun _ s₂ h₂ => wpAny_bind (wpAny_mono h₂ (fun ok s₃ h₃ => ?_) fun _ _ h' => h')) fun _ _ h' => h')
    cases ok with
    | false => exact wpAny_pure ⟨rfl, h₃⟩
    | true =>
      exact wpAny_bind (wpAny_bind (wpAny_mono h₃ (fun x s₄ h₄ => wpAny_bind (wpAny_mono h₄ (fun _ s₅ h₅ => wpAny_pure (wpAny_pure ⟨rfl, h₅⟩)) fun _ _ h' => h')) fun _ _ h' => h'))

/-- the loop of a comprehension -/
theorem comp_loop {elt t iter : Expr} {ifs : List Expr} {scope : Scope} {pos : Pos} {F : Fi} {A : Around} {I D : Addr} {gs : Nat → Prop} {R : Result → Shared → Prop} (hsc : F.sc = sc) (hown : F.own = false) (ok : OkA n A) :
    ∀ {xs ys : List PV}, CompOk G n sc σ t ifs elt xs ys → ∀ (Z W Zi wr : Addr → Prop) (s : Shared) (accs : List PV) (vs : List Value), St G F Z W σ s → ItAt G n true I gs xs Zi wr s → (∀ b, Zi b → Z b) → (∀ b, Z b → ¬ wr b) → (∀ b, W b → ¬ wr b) →
      (∀ b, wr b → F.h0.get? b = none) → (∀ x c, F.cells.lookup x = some c → (∃ o, s.heap.get? c = some o) ∧ ¬ wr c ∧ c ≠ D) → ¬ wr D → ¬ Z D → ¬ W D → F.h0.get? D = none → s.heap.PlainList D vs.toArray → Reps Z s.heap accs vs → accs.length + xs.length ≤ 1000000 →
      (∀ s' Z' ws, GrI Z W (fun b => wr b ∨ b = D) gs s Z' W s' → ¬ Z' D → St G F Z' W σ s' → s'.heap.PlainList D ws.toArray → Reps Z' s'.heap (accs ++ ys) ws → R (.ok .next) s') →
      codeAny (model G.prog G.w) A (.compLoop (.ListComp elt [⟨t, iter, ifs, 0⟩] scope pos) 0 (.ref I) (.ref D) F.env) R s := by
  intro xs ys hc
  induction hc with
  | nil =>
    intro Z W Zi wr s accs vs st it hzi hz hw h0 hcl hwD hzD hWD hD0 hp hr hlen h
    refine compLoop_at ?_
    unfold ItAt at it
    refine it.2 s (Kp.refl st.bs) rfl A _ _ ok fun s1 e1 => ?_
    have z1 : ZG Z s Z s1 := ⟨fun _ z => z, fun _ z => .inl z, fun b z => let ⟨o, q⟩ := st.zlt b z; ⟨o, e1.keep b o (hz b z) q⟩⟩
    have st1 : St G F Z W σ s1 := st.step e1 z1 hw hz h0 fun _ y c hy => (hcl y c hy).2.1
    obtain ⟨k, hp⟩ := hp
    refine h s1 Z vs (GrI.it (e1.wide (fun b w => .inl (.inl w)) (fun _ h => .inl h)) z1) hzD st1 ⟨k, e1.keep _ _ hwD hp⟩ ?_
    rw [List.append_nil]
    exact hr.mono (fun _ z => z) fun b o z e => e1.keep b o (hz b z) e
  | @cons x y xs ys τ b ha ht he hrest hsub ih =>
    intro Z W Zi wr s accs vs st it hzi hz hw h0 hcl hwD hzD hWD hD0 hp hr hlen h
    refine compLoop_at ?_
    unfold ItAt at it
    refine it.2 s Z (Kp.refl st.bs) hzi hz st.zlt A _ _ ok fun v s1 Z1 wr1 e1 z1 r1 it1 hwr1 => ?_
    have its1 := it1.its
    refine ⟨its1.plain, ?_⟩
    have lD : ∃ o, s.heap.get? D = some o := let ⟨k, e⟩ := hp; ⟨_, e⟩
    have hwD1 : ¬ wr1 D := fun q => (hwr1 D q).elim hwD fun d => by obtain ⟨o, e⟩ := lD; rw [d] at e; cases e
    have hw1 : ∀ b, W b → ¬ wr1 b := fun b wb q => (hwr1 b q).elim (hw b wb) fun d => by obtain ⟨o, e⟩ := st.wlt b wb; rw [d] at e; cases e
    have hzD1 : ¬ Z1 D := fun q => (z1.new D q).elim hzD fun d => by obtain ⟨o, e⟩ := lD; rw [d] at e; cases e
    have hcl1 : ∀ x c, F.cells.lookup x = some c → (∃ o, s1.heap.get? c = some o) ∧ ¬ wr1 c ∧ c ≠ D := fun x c hx => by
      obtain ⟨⟨o, e⟩, h1, h2⟩ := hcl x c hx
      exact ⟨⟨o, e1.keep _ _ h1 e⟩, fun q => (hwr1 c q).elim h1 fun d => (by rw [d] at e; cases e), h2⟩
    have st1 : St G F Z1 W σ s1 := st.step e1 z1 hw hz h0 fun _ y c hy => (hcl y c hy).2.1
    have g1 : GrI Z W (fun b => wr b ∨ b = D) gs s Z1 W s1 := GrI.it (e1.wide (fun b w => .inl (.inl w)) (fun _ h => .inl h)) z1
    have h01 : ∀ b, wr1 b → F.h0.get? b = none := fun b q => by
      rcases hwr1 b q with w | d
      · exact h0 b w
      · cases q : F.h0.get? b with
        | none => rfl
        | some o => rw [st.hk b o q] at d; cases d
    refine ha.run F A Z1 W s1 v _ _ hsc hown ok.1 st1 r1 fun s2 g2 st2 => ?_
    refine ht.run hsc ok st2 fun s3 Z3 e3 z3 => ?_
    have st3' := st2.ext e3 z3
    have st3 := st3'.weak hsub
    have g13 : Gr Z1 W s1 Z3 W s3 := g2.trans (Gr.of e3 z3)
    -- behind the test: to go on from a state s4
    have go : ∀ (s4 : Shared) (Z4 : Addr → Prop) (accs4 : List PV) (vs4 : List Value), Ext0 s3 s4 ∨ True → GrI Z1 W (fun b => wr b ∨ b = D) gs s1 Z4 W s4 → St G F Z4 W σ s4 → Kp G Z1 wr1 gs s1 s4 → s1.gens.size ≤ s4.gens.size → (∀ b, Z1 b → Z4 b) → (∀ b, Z4 b → ¬ wr1 b) → ¬ Z4 D →
        (∀ x c, F.cells.lookup x = some c → ∃ o, s4.heap.get? c = some o) → s4.heap.PlainList D vs4.toArray → Reps Z4 s4.heap accs4 vs4 → accs4.length ≤ accs.length + 1 → accs4 ++ ys = accs ++ (if b then y :: ys else ys) →
        codeAny (model G.prog G.w) A (.compLoop (.ListComp elt [⟨t, iter, ifs, 0⟩] scope pos) 0 (.ref I) (.ref D) F.env) R s4 := by
      intro s4 Z4 accs4 vs4 _ g14 st4 kp hgs hz14 hz4 hzD4 hc4 hp4 hr4 hl4 hacc
      refine ih Z4 W Z1 wr1 s4 accs4 vs4 st4 (it1.kp kp hgs) hz14 hz4 hw1 h01 (fun x c hx => ⟨hc4 x c hx, (hcl1 x c hx).2⟩) hwD1 hzD4 hWD hD0 hp4 hr4 (by simp only [List.length_cons] at hlen; omega) fun s5 Z5 ws g5 hzD5 st5 hp5 hr5 => ?_
      refine h s5 Z5 ws ((g1.trans g14 fun b w => .inl w).trans g5 fun b w => w.elim (fun w => (hwr1 b w).imp .inl id) fun e => .inl (.inr e)) hzD5 st5 hp5 ?_
      rw [← hacc]; exact hr5
    have hz3 : ∀ b, Z3 b → ¬ wr1 b := fun b z q => by
      rcases g13.zw b z with z | w | d
      · exact its1.apart b z q
      · exact hw1 b w q
      · obtain ⟨o, e⟩ := its1.live b q; rw [d] at e; cases e
    have hzD3 : ¬ Z3 D := fun z => by
      rcases g13.zw D z with z | w | d
      · exact hzD1 z
      · exact hWD w
      · obtain ⟨k, e⟩ := hp; rw [e1.keep D _ hwD e] at d; cases d
    have kp3 : Kp G Z1 wr1 gs s1 s3 := ⟨st3.bs, fun b o q e => g13.ext.keep b o (fun wb => q.elim (fun z => st1.disj b z wb) (hw1 b wb)) e, fun g hg => by
      have hlt := its1.glt g hg
      obtain ⟨x, hx⟩ : ∃ x, s1.gens[g]? = some x := ⟨_, Array.getElem?_eq_getElem hlt⟩
      rw [hx]; exact g13.ext.gens g x (fun f => f) hx⟩
    have keepD : ∀ o, s.heap.get? D = some o → s3.heap.get? D = some o := fun o e => g13.ext.keep D o hWD (e1.keep D o hwD e)
    have keepZ : ∀ b o, Z b → s.heap.get? b = some o → s3.heap.get? b = some o := fun b o z e => g13.ext.keep b o (st1.disj b (z1.sub b z)) (e1.keep b o (hz b z) e)
    have hc3 : ∀ x c, F.cells.lookup x = some c → ∃ o, s3.heap.get? c = some o := fun x c hx => by
      obtain ⟨⟨o, e⟩, _⟩ := hcl1 x c hx
      by_cases w : W c
      · exact st3.wlt c w
      · exact ⟨o, g13.ext.keep c o w e⟩
    have hp3 : s3.heap.PlainList D vs.toArray := let ⟨k, e⟩ := hp; ⟨k, keepD _ e⟩
    have hr3 : Reps Z3 s3.heap accs vs := hr.mono (fun b z => g13.zs b (z1.sub b z)) keepZ
    cases b with
    | false =>
      rw [if_neg Bool.false_ne_true]
      exact go s3 Z3 accs vs (.inr trivial) (GrI.fr g13) st3 kp3 g13.ext.gsize g13.zs hz3 hzD3 hc3 hp3 hr3 (Nat.le_succ _) (by rw [if_neg Bool.false_ne_true])
    | true =>
      rw [if_pos rfl]
      refine (he rfl).run F A Z3 W s3 _ _ hsc ok st3' fun w s4 Z4 e4 z4 r4 => ?_
      have hp4 : s4.heap.PlainList D vs.toArray := let ⟨k, e⟩ := hp3; ⟨k, e4.keep' _ _ e⟩
      refine wpAny_list_append_plain hp4 (fun h' hp' hs' => ?_) (by rw [List.size_toArray, hr.length, sizeLine_eq]; simp only [List.length_cons] at hlen; omega)
      have e45 : ExtG (fun b => b = D) (fun _ => False) s4 { s4 with heap := h' } := ⟨fun b o nb e => (hs'.2 b nb).trans e, Nat.le_refl _, fun _ _ _ e => e, rfl, fun x => x⟩
      have hzD4 : ¬ Z4 D := fun z => (z4.new D z).elim hzD3 fun d => by obtain ⟨k, e⟩ := hp3; rw [d] at e; cases e
      have hz4 : ∀ b, Z4 b → b ≠ D := fun b z q => hzD4 (q ▸ z)
      have z45 : ZG Z4 s4 Z4 { s4 with heap := h' } := ⟨fun _ z => z, fun _ z => .inl z, fun b z => let ⟨o, e⟩ := z4.lt b z; ⟨o, e45.keep b o (hz4 b z) e⟩⟩
      have st5 : St G F Z4 W σ { s4 with heap := h' } := (st3.ext e4 z4).step e45 z45 (fun b w q => hWD (q ▸ w)) hz4 (fun b q => q ▸ hD0) fun _ x c hx => (hcl x c hx).2.2
      have g14 := g13.trans (Gr.of (W := W) e4 z4)
      have kp4 : Kp G Z1 wr1 gs s1 { s4 with heap := h' } := ⟨st5.bs, fun b o q e => e45.keep b o (fun w => by have w : b = D := w; subst w; exact q.elim hzD1 hwD1) (e4.keep' b o (kp3.keep b o q e)), fun g hg => by
        have hlt := its1.glt g hg
        obtain ⟨x, hx⟩ : ∃ x, s1.gens[g]? = some x := ⟨_, Array.getElem?_eq_getElem hlt⟩
        rw [hx]; exact g14.ext.gens g x (fun f => f) hx⟩
      refine go { s4 with heap := h' } Z4 (accs ++ [y]) (vs ++ [w]) (.inr trivial) ?_ st5 kp4 g14.ext.gsize g14.zs ?_ hzD4 ?_ (by simpa using hp') ?_ (by simp) (by simp)
      · exact (GrI.fr g14).trans (GrI.it (wr := fun b => b = D) (gs := gs) (e45.wide (fun b w => .inl w) (fun _ h => h.elim)) z45) fun b w => .inl (.inr w)
      · intro b z q
        rcases z4.new b z with z | d
        · exact hz3 b z q
        · obtain ⟨o, e⟩ := its1.live b q
          rw [kp3.keep b o (.inr q) e] at d; cases d
      · intro x c hx
        obtain ⟨o, e⟩ := hc3 x c hx
        exact ⟨o, e45.keep c o (hcl x c hx).2.2 (e4.keep' _ _ e)⟩
      · have ra : Reps Z4 h' accs vs := (hr3.ext e4 z4).mono (fun _ z => z) fun b o z e => e45.keep b o (hz4 b z) e
        have rb : Rep Z4 h' y w := r4.mono (fun _ z => z) fun b o z e => e45.keep b o (hz4 b z) e
        exact ra.append ⟨w, [], rfl, rb, rfl⟩
end
end Mine
namespace Mine

section
variable {G : Gc} {n : Nat} {σ τ κ : Loc} {sc : Scope}

/-- the names that a comprehension captures -/
def Caps (sc scope : Scope) (σ κ : Loc) : Prop := ∀ y sl, κ.lookup y = some sl → (∃ pv, sl = .val pv) ∧ σ.lookup y = some sl ∧ (y, NameKind.free) ∈ scope.names ∧ (relab scope sc).names.lookup y = some .cell
/-- the function has cells for them -/
def FreeOk (sc scope : Scope) : Prop := ∀ p ∈ scope.names, p.2 = .free → sc.names.lookup p.1 = some .cell

structure CompEnd (G : Gc) (F : Fi) (Z W : Addr → Prop) (σ : Loc) (s : Shared) (ys : List PV) (D C : Addr) (s' : Shared) (Z' : Addr → Prop) (ws : List Value) : Prop where
  ext : Ext0 s s'
  zg : ZG Z s Z' s'
  dD : s.heap.get? D = none
  dC : s.heap.get? C = none
  ne : D ≠ C
  zD : ¬ Z' D
  zC : ¬ Z' C
  ns : ∃ m, s'.heap.Ns C m
  pl : s'.heap.PlainList D ws.toArray
  rs : Reps Z' s'.heap ys ws
  bs : Bs G s'

theorem comp_block {elt t iter : Expr} {ifs : List Expr} {scope : Scope} {pos : Pos} {xs ys : List PV} {F : Fi} {A : Around} {Z W : Addr → Prop} {s : Shared} {E E1 : Value → Shared → Prop} {RR : Value → Addr → Result → Shared → Prop}
    (hsc : F.sc = sc) (hown : F.own = true) (ok : OkA n A) (st : St G F Z W σ s) (h1 : EvI G n sc σ iter xs true) (hlen : xs.length ≤ 1000000) (hc : CompOk G n (relab scope sc) κ t ifs elt xs ys) (hcap : Caps sc scope σ κ) (hfree : FreeOk sc scope) (hdot : (relab scope sc).names.lookup (".0" : Str) ≠ none)
    (hcell : ∀ y ∈ scope.names, y.2 ≠ .cell) (hkind : scope.kind = .function)
    (hRR : ∀ D C s' Z' ws, CompEnd G F Z W σ s ys D C s' Z' ws → RR (.ref D) C (.ok .next) s') :
    wpAny (model G.prog G.w) A (eval iter F.env) (fun x s1 => wpAny (model G.prog G.w) A (pyIter x) (fun it s2 => wpAny (model G.prog G.w) A (newList []) (fun acc s3 =>
      wpAny (model G.prog G.w) A (newFunctionEnv scope F.env.globals (clGo F.cells scope.names []) [] F.env.qual none .none (some F.env)) (fun cenv s4 =>
        codeAny (model G.prog G.w) A (.compStart (.ListComp elt [⟨t, iter, ifs, 0⟩] scope pos) 0 it acc { cenv with scope := relabel scope F.env }) (RR acc cenv.locals) s4) E s3) E s2) E s1) E s := by
  refine h1.run F A Z W s _ _ hsc ok st fun I s2 Z2 wr gs e2 z2 it hwr hgs => ?_
  have st2 := st.ext e2 z2
  have its := it.its
  refine wpAny_newObj_type (wpAny_newFunctionEnv hcell (by intro y hy; simp at hy) (fun h4 hn hs4 => ?_) hkind)
  dsimp only at hn hs4 ⊢
  generalize hH3 : s2.heap.push { cls := .type "list", dict := none, data := .seq ([] : List Value).toArray } = H3 at hn hs4 ⊢
  have hD3 : H3.get? s2.heap.objs.size = some { cls := .type "list", dict := none, data := .seq ([] : List Value).toArray } := hH3 ▸ Heap.get?_push_size _ rfl
  have k3 : ∀ b o, s2.heap.get? b = some o → H3.get? b = some o := fun b o e => hH3 ▸ Heap.get?_push_of_some _ e
  have hC2 : s2.heap.get? H3.objs.size = none := by
    cases q : s2.heap.get? H3.objs.size with
    | none => rfl
    | some o => exact absurd (Heap.lt_size (k3 _ _ q)) (Nat.lt_irrefl _)
  have hDC : s2.heap.objs.size ≠ H3.objs.size := Nat.ne_of_lt (Heap.lt_size hD3)
  have k4 : ∀ b o, s2.heap.get? b = some o → h4.get? b = some o := fun b o e => hs4.extBut b o (fun q => by rw [q, hC2] at e; cases e) (Heap.get?_push_of_some _ (k3 b o e))
  have hD4 : h4.get? s2.heap.objs.size = some { cls := .type "list", dict := none, data := .seq ([] : List Value).toArray } := hs4.extBut _ _ hDC (Heap.get?_push_of_some _ hD3)
  let s4 : Shared := { s2 with heap := h4, toks := s2.toks + ([] : List (Str × Value)).length }
  have e24 : Ext0 s2 s4 := Ext0.heap k4
  have z24 : ZG Z2 s2 Z2 s4 := ZG.same z2.lt e24
  let Fc : Fi := compFi F scope H3.objs.size Z2 s.heap
  have hfr : ∀ p ∈ scope.names, p.2 = .free → ∃ c v, F.cells.lookup p.1 = some c ∧ s2.heap.IsCell c v ∧ W c := fun p hp hk => st2.cells hown p.1 (by rw [hsc]; exact hfree p hp hk)
  have stc : St G Fc Z2 (fun b => b = H3.objs.size) κ s4 := {
    b0 := st.base
    hk := fun b o e => k4 b o (e2.keep' b o e)
    bare := e24.bare st2.bare
    zlt := z24.lt
    wlt := fun b w => by
      have w : b = H3.objs.size := w
      subst w; obtain ⟨o, _, _, q, _⟩ := hn; exact ⟨o, q⟩
    wn0 := fun b w => by have w : b = H3.objs.size := w; subst w; exact Ext0.dead e2 hC2
    disj := fun b z w => by
      have w : b = H3.objs.size := w
      subst w; obtain ⟨o, q⟩ := z2.lt _ z; rw [hC2] at q; cases q
    z0 := fun b z => .inl z
    z1 := fun b z => z
    LW := rfl
    kind := hkind
    ns := ⟨_, hn⟩
    cells := fun h => by cases h
    inj := fun h => by cases h
    ownd := fun h => by rw [show Fc.sc.names.lookup (".0" : Str) = (relab scope sc).names.lookup (".0" : Str) from by show (relab scope F.sc).names.lookup _ = _; rw [hsc]] at h; exact absurd h hdot
    vals := fun y pv hy => by
      obtain ⟨_, hσ, hm, hrl⟩ := hcap y _ hy
      obtain ⟨v, hv, hr⟩ := st2.vals y pv hσ
      refine ⟨v, .inr ⟨by show (relab scope F.sc).names.lookup y = _; rw [hsc]; exact hrl, ?_⟩, hr.ext e24 z24⟩
      rcases hv with ⟨k, _⟩ | ⟨k, c, hcl, hcv⟩
      · rw [hsc, hfree (y, .free) hm rfl] at k; cases k
      · exact ⟨c, clGo_has F.cells scope.names [] y c hcl (.inl hm) (fun b hb => by simp at hb), hcv.keeps k4⟩
    owns := ⟨fun _ => (0 : Nat), And.intro (fun y l hy => by obtain ⟨⟨pv, h⟩, _⟩ := hcap y _ hy; cases h) (fun y _ l _ hy => by obtain ⟨⟨pv, h⟩, _⟩ := hcap y _ hy; cases h)⟩ }
  have notwr : ∀ b, (s2.heap.get? b = none) → ¬ wr b := fun b d q => by obtain ⟨o, e⟩ := its.live b q; rw [d] at e; cases e
  have it4 : ItAt G n true I gs xs Z2 wr s4 := it.kp ⟨stc.bs, fun b o _ e => k4 b o e, fun _ _ => rfl⟩ (Nat.le_refl _)
  have loop : ∀ s5 : Shared, s5 = s4 → codeAny (model G.prog G.w) A (.compLoop (.ListComp elt [⟨t, iter, ifs, 0⟩] scope pos) 0 (.ref I) (.ref s2.heap.objs.size) Fc.env) (RR (.ref s2.heap.objs.size) H3.objs.size) s5 := by
    rintro s5 rfl
    refine comp_loop (F := Fc) (by show relab scope F.sc = _; rw [hsc]) rfl ok hc Z2 (fun b => b = H3.objs.size) Z2 wr s4 [] [] stc it4 (fun _ z => z) its.apart (fun b w => ?_) (fun b q => ?_) (fun x c hx => ?_) (notwr _ (none_size _)) (not_live z2.lt (none_size _)) hDC (Ext0.dead e2 (none_size _))
      ⟨0, hD4⟩ (by simp [Reps]) (by simpa using hlen) fun s' Z' ws g hzD st' hp hr => ?_
    · have w : b = H3.objs.size := w
      subst w; exact notwr _ hC2
    · exact hwr b q
    · rcases clGo_get F.cells scope.names [] x c hx with ⟨h1, h2⟩ | h
      · obtain ⟨c', v, h3, ⟨oc, h4, _⟩, _⟩ := st.cells hown x (by rw [hsc]; exact hfree (x, .free) h2 rfl)
        rw [h1] at h3; cases h3
        refine ⟨⟨oc, k4 _ _ (e2.keep' _ _ h4)⟩, fun q => ?_, fun q => ?_⟩
        · rw [hwr c q] at h4; cases h4
        · rw [q, Ext0.dead e2 (none_size _)] at h4; cases h4
      · simp at h
    · have abs : ∀ b, ((b = H3.objs.size) ∨ (wr b ∨ b = s2.heap.objs.size)) → s.heap.get? b = none := by
        rintro b (rfl | w | rfl)
        · exact Ext0.dead e2 hC2
        · exact hwr b w
        · exact Ext0.dead e2 (none_size _)
      have e4 : Ext0 s s4 := e2.trans' e24
      refine hRR _ _ s' Z' ws ⟨e4.trans g.ext (fun b w => .inr (abs b w)) (fun x hx => .inr (hgs x hx)), ⟨fun b z => g.zs b (z2.sub b z), fun b z => ?_, st'.zlt⟩, Ext0.dead e2 (none_size _), Ext0.dead e2 hC2, hDC, hzD, fun z => st'.disj _ z rfl, st'.ns, hp, by simpa using hr, st'.bs⟩
      rcases g.zw b z with z | w | w | d
      · exact z2.new b z
      · exact .inr (abs b (.inl w))
      · exact .inr (abs b (.inr w))
      · exact .inr (Ext0.dead e4 d)
  exact codeAny_compStart_list (loop _ rfl) (it4.its.self s4 (Kp.refl stc.bs) A _ _ ok (loop _ rfl))

theorem St.closure {F : Fi} {Z W : Addr → Prop} {s : Shared} {scope : Scope} (st : St G F Z W σ s) (hsc : F.sc = sc) (hown : F.own = true) (hfree : FreeOk sc scope) : closureFor scope F.env = pure (clGo F.cells scope.names []) :=
  closure_eq (env := F.env) fun p hp hk => by
    obtain ⟨c, _, h, _⟩ := st.cells hown p.1 (by rw [hsc]; exact hfree p hp hk)
    exact ⟨c, h⟩

/-- the comprehension's own namespace is let go -/
theorem CompEnd.gone {F : Fi} {Z W : Addr → Prop} {s s' : Shared} {ys : List PV} {D C : Addr} {Z' : Addr → Prop} {ws : List Value} (x : CompEnd G F Z W σ s ys D C s' Z' ws) {h' : Heap} (hs : Heap.SameBut C s'.heap h') :
    Ext0 s { s' with heap := h' } ∧ ZG Z s Z' { s' with heap := h' } ∧ h'.PlainList D ws.toArray ∧ Reps Z' h' ys ws := by
  have e : ExtG (fun b => b = C) (fun _ => False) s' { s' with heap := h' } := ⟨fun b o nb e => (hs.2 b nb).trans e, Nat.le_refl _, fun _ _ _ e => e, rfl, fun x => x⟩
  have hz : ∀ b, Z' b → b ≠ C := fun b z q => x.zC (q ▸ z)
  refine ⟨x.ext.trans e (fun b w => .inr (by have w : b = C := w; rw [w]; exact x.dC)) (fun _ h => h.elim), ⟨x.zg.sub, x.zg.new, fun b z => let ⟨o, q⟩ := x.zg.lt b z; ⟨o, e.keep b o (hz b z) q⟩⟩, ?_, x.rs.mono (fun _ z => z) fun b o z q => e.keep b o (hz b z) q⟩
  obtain ⟨k, q⟩ := x.pl
  exact ⟨k, e.keep D _ x.ne q⟩

/-- a comprehension is a new list that nobody else holds; here the frame must be a def's -/
structure EvN' (G : Gc) (n : Nat) (sc : Scope) (σ : Loc) (e : Expr) (xs : List PV) : Prop where
  run : ∀ (F : Fi) (A : Around) (Z W : Addr → Prop) (s : Shared) (Q : Value → Shared → Prop) (E : Value → Shared → Prop), F.sc = sc → F.own = true → OkA n A → St G F Z W σ s →
    (∀ a vs s' Z', Ext0 s s' → ZG Z s Z' s' → s.heap.get? a = none → ¬ Z' a → s'.heap.PlainList a vs.toArray → Reps Z' s'.heap xs vs → Q (.ref a) s') → wpAny (model G.prog G.w) A (eval e F.env) Q E s

theorem EvN'.comp {elt t iter : Expr} {ifs : List Expr} {scope : Scope} {pos : Pos} {xs ys : List PV}
    (h1 : EvI G n sc σ iter xs true) (hlen : xs.length ≤ 1000000) (hc : CompOk G n (relab scope sc) κ t ifs elt xs ys) (hcap : Caps sc scope σ κ) (hfree : FreeOk sc scope) (hdot : (relab scope sc).names.lookup (".0" : Str) ≠ none)
    (hcell : ∀ y ∈ scope.names, y.2 ≠ .cell) (hkind : scope.kind = .function) (hnames : ∀ y ∈ scope.names, y.2 = .local → scope.names.lookup y.1 = some .local) (hs : ∀ env x, foldedSetIterable iter env x = pure x) :
    EvN' G n sc σ (.ListComp elt [⟨t, iter, ifs, 0⟩] scope pos) ys := by
  refine ⟨fun F A Z W s Q E hsc hown ok st h => ?_⟩
  rw [eval_ListComp]
  refine wpAny_comprehension_free (use := none) rfl (hs _) (st.closure hsc hown hfree) hkind hnames (comp_block (pos := pos) (E1 := E) hsc hown ok st h1 hlen hc hcap hfree hdot hcell hkind (RR := fun acc C => compPost (model G.prog G.w) A E none Q acc C) fun D C s' Z' ws ce => ?_)
  obtain ⟨m, hm⟩ := ce.ns
  refine ⟨m, hm, fun h' hs' => ?_⟩
  obtain ⟨q1, q2, q3, q4⟩ := ce.gone hs'
  exact h D ws _ Z' q1 q2 ce.dD ce.zD q3 q4
end
end Mine
namespace Mine

/-- one table says no more than another -/
def subL : Loc → Loc → Prop
  | [], _ => True
  | (k, v) :: r, τ => τ.lookup k = some v ∧ subL r τ
theorem subL.out : ∀ {a b : Loc}, subL a b → ∀ y sl, a.lookup y = some sl → b.lookup y = some sl
  | [], _, _, y, sl, h => by simp at h
  | (k, v) :: r, b, ⟨h1, h2⟩, y, sl, h => by
    by_cases q : y = k
    · subst q; rw [lookup_cons_self] at h; cases h; exact h1
    · rw [lookup_cons_ne _ _ q] at h; exact h2.out y sl h

section
variable {G : Gc} {n : Nat} {σ τ τ1 : Loc} {sc : Scope} {o : Out}

theorem Ext0.extBut {s : Shared} {h' : Heap} (he : Heap.ExtBut s.heap.objs.size s.heap h') : Ext0 s { s with heap := h' } :=
  Ext0.heap (tk := s.toks) fun b o e => he b o (Nat.ne_of_lt (Heap.lt_size e)) e

theorem Rep.tupe {Z : Addr → Prop} {h : Heap} {xs : List PV} {v : Value} (r : Rep Z h (.tup xs) v) : ∃ a vs, v = .ref a ∧ Z a ∧ h.IsTuple a vs.toArray ∧ Reps Z h xs vs := by
  simpa only [Rep] using r

/-- targets in a row -/
structure AsL (G : Gc) (own : Bool) (sc : Scope) (σ : Loc) (ts : List Expr) (xs : List PV) (τ : Loc) : Prop where
  run : ∀ (F : Fi) (A : Around) (Z W : Addr → Prop) (s : Shared) (vs : List Value) (Q : Unit → Shared → Prop) (E : Value → Shared → Prop), F.sc = sc → F.own = own → A.handled = none → St G F Z W σ s → Reps Z s.heap xs vs →
    (∀ s', Gr Z W s Z W s' → St G F Z W τ s' → Q () s') → wpAny (model G.prog G.w) A (assignInOrder (ts.map fun t => assign t F.env) vs) Q E s
theorem AsL.nil {own : Bool} : AsL G own sc σ [] [] σ := by
  refine ⟨fun F A Z W s vs Q E _ _ _ st r h => ?_⟩
  simp only [Reps] at r
  subst r
  exact assignInOrder_nil (h s (Gr.refl ..) st)
theorem St.repsKeep {F : Fi} {Z W : Addr → Prop} {s s' : Shared} {xs : List PV} {vs : List Value} (st : St G F Z W σ s) (g : Gr Z W s Z W s') (r : Reps Z s.heap xs vs) : Reps Z s'.heap xs vs :=
  r.mono (fun _ z => z) fun b o z e => g.ext.keep b o (st.disj b z) e
theorem AsL.cons {own : Bool} {t : Expr} {ts : List Expr} {x : PV} {xs : List PV} (h1 : AsV G own sc σ t x τ1) (h2 : AsL G own sc τ1 ts xs τ) : AsL G own sc σ (t :: ts) (x :: xs) τ := by
  refine ⟨fun F A Z W s vs Q E hsc ho hh st r h => ?_⟩
  simp only [Reps] at r
  obtain ⟨v, ws, rfl, r1, r2⟩ := r
  refine assignInOrder_cons (h1.run F A Z W s v _ _ hsc ho hh st r1 fun s1 g1 st1 => ?_)
  exact h2.run F A Z W s1 ws _ _ hsc ho hh st1 (st.repsKeep g1 r2) fun s2 g2 st2 => h s2 (g1.trans g2) st2
theorem AsV.tup {own : Bool} {ts : List Expr} {xs : List PV} {k pos} (h1 : AsL G own sc σ ts xs τ) (hl : ts.length = xs.length) (he : ∀ env, (assignEach ts env) = ts.map fun t => (false, assign t env)) :
    AsV G own sc σ (.Tuple ts k pos) (.tup xs) τ := by
  refine ⟨fun F A Z W s v Q E hsc ho hh st r h => ?_⟩
  obtain ⟨a, vs, rfl, za, ht, rs⟩ := r.tupe
  refine wpAny_assign_Tuple hh ht (by rw [he, List.length_map, hl, List.size_toArray, rs.length]) (by rw [he]; simp) fun h' hb => ?_
  have e1 := Ext0.extBut hb
  have z1 := ZG.same st.zlt e1
  have ee : (assignEach ts F.env).map (·.2) = ts.map fun t => assign t F.env := by rw [he]; simp
  rw [ee]
  exact h1.run F A Z W { s with heap := h' } vs _ _ hsc ho hh (st.ext e1 z1) (rs.ext e1 z1) fun s2 g2 st2 => h s2 ((Gr.of e1 z1).trans g2) st2

theorem Ex1.assignT {e : Expr} {ts : List Expr} {pv : PV} {k p pos} (h1 : Ev G n sc σ e pv) (ha : AsV G true sc σ (.Tuple ts k p) pv τ) (hs : ∀ env, swapsWithSole [.Tuple ts k p] e pos.line env = pure false)
    (hw : ∀ env, swappedStores [.Tuple ts k p] e env = pure none) : Ex1 G n sc σ (.Assign [.Tuple ts k p] e pos) (.next τ) := by
  refine ⟨fun F A Z W s Q E hsc ho ok st h => ?_⟩
  refine Assign_Tuple (h1.run F A Z W s _ _ hsc ok st fun v s1 Z1 e1 z1 r1 => ?_) (hs _) (hw _)
  exact ha.run F A Z1 W s1 v _ _ hsc ho ok.1 (st.ext e1 z1) r1 fun s2 g2 st2 => h _ s2 Z1 W ((Gr.of e1 z1).trans g2) ⟨rfl, st2⟩
/-- two names from a pair that is written out: the second first -/
theorem Ex1.assignSw {e : Expr} {ts : List Expr} {x y : PV} {a b : Str} {k p pos} (h1 : Ev G n sc σ e (.tup [x, y])) (ha : sc.names.lookup a = some .local ∨ sc.names.lookup a = some .cell) (hb : sc.names.lookup b = some .local ∨ sc.names.lookup b = some .cell)
    (hs : ∀ env, swapsWithSole [.Tuple ts k p] e pos.line env = pure false) (hw : ∀ F : Fi, F.sc = sc → swappedStores [.Tuple ts k p] e F.env = pure (some [a, b])) :
    Ex1 G n sc σ (.Assign [.Tuple ts k p] e pos) (.next ((a, .val x) :: (b, .val y) :: σ)) := by
  refine ⟨fun F A Z W s Q E hsc ho ok st h => ?_⟩
  refine Assign_Tuple_swapped (h1.run F A Z W s _ _ hsc ok st fun v s1 Z1 e1 z1 r1 => ?_) (hs _) (hw F hsc)
  obtain ⟨ad, vs, rfl, za, ht, rs⟩ := r1.tupe
  simp only [Reps] at rs
  obtain ⟨v1, ws, rfl, r1, v2, us, rfl, r2, rfl⟩ := rs
  refine wpAny_unpackItems_tuple (items := [v1, v2].toArray) ok.1 ht fun h' hb' => ?_
  have e2 := Ext0.extBut hb'
  have z2 := ZG.same z1.lt e2
  have e12 := e1.trans' e2
  have z12 := z1.trans z2 e1
  have st2 := st.ext e12 z12
  refine assignInOrder_cons (bindName_ (st2.put ho (by rw [hsc]; exact hb) (r2.ext e2 z2) fun s3 g3 st3 => ?_))
  have r1' : Rep Z1 s3.heap x v1 := (r1.ext e2 z2).mono (fun _ z => z) fun b o z e => g3.ext.keep b o (st2.disj b z) e
  refine assignInOrder_cons (bindName_ (st3.put ho (by rw [hsc]; exact ha) r1' fun s4 g4 st4 => ?_))
  exact assignInOrder_nil (h _ s4 Z1 W ((Gr.of e12 z12).trans (g3.trans g4)) ⟨rfl, st4⟩)

/-! in place -/
theorem InV.addI {a b : Int} : InV G n .Add (.int a) (.int b) (.int (a + b)) := by
  intro A Z s v w Q E ok zl ra rb h
  simp only [Rep] at ra rb
  obtain ⟨t, rfl⟩ := ra
  obtain ⟨u, rfl⟩ := rb
  exact PySem.P.iadd_int (finT h zl (by simp [Rep]))
theorem InV.subI {a b : Int} : InV G n .Sub (.int a) (.int b) (.int (a - b)) := by
  intro A Z s v w Q E ok zl ra rb h
  simp only [Rep] at ra rb
  obtain ⟨t, rfl⟩ := ra
  obtain ⟨u, rfl⟩ := rb
  exact PySem.P.isub_int (finT h zl (by simp [Rep]))
theorem InV.mulI {a b : Int} (hm : IntMulOk a b) : InV G n .Mult (.int a) (.int b) (.int (a * b)) := by
  intro A Z s v w Q E ok zl ra rb h
  simp only [Rep] at ra rb
  obtain ⟨t, rfl⟩ := ra
  obtain ⟨u, rfl⟩ := rb
  exact PySem.P.imul_int (finT h zl (by simp [Rep])) hm
theorem InV.addS {a b : Tx} (hl : a.length + b.length ≤ 1000000) : InV G n .Add (.str a) (.str b) (.str (a ++ b)) := by
  intro A Z s v w Q E ok zl ra rb h
  simp only [Rep] at ra rb
  obtain ⟨t, rfl⟩ := ra
  obtain ⟨u, rfl⟩ := rb
  exact PySem.P.iadd_str (Mine.addS (A := A) (n := n) hl zl h)

/-- a chain of two comparisons, as a test -/
theorem EvT.chain {l m r : Expr} {op op' : CmpOp} {a b c : PV} {p q : Bool} {pos} (h1 : Ev G n sc σ l a) (h2 : Ev G n sc σ m b) (h3 : CmpV G n op a b (.bool p)) (h4 : Ev G n sc σ r c) (h5 : CmpV G n op' b c (.bool q))
    (hm : lastMarks [op, op'] [m, r] = false) : EvT G n sc σ (.Compare l [op, op'] [m, r] pos) (p && q) := by
  refine ⟨fun F A Z W s Q E hsc ok st h => ?_⟩
  refine isTrue_chain (h1.run F A Z W s _ _ hsc ok st fun v s1 Z1 e1 z1 r1 => ?_) hm
  have st1 := st.ext e1 z1
  refine test_link (h2.run F A Z1 W s1 _ _ hsc ok st1 fun w s2 Z2 e2 z2 r2 => ?_)
  have st2 := st1.ext e2 z2
  refine h3 A Z2 s2 v w _ _ ok z2.lt (r1.ext e2 z2) r2 fun x s3 Z3 e3 z3 r3 => ?_
  have st3 := st2.ext e3 z3
  simp only [Rep] at r3
  subst r3
  have e13 := e1.trans' (e2.trans' e3)
  have z13 := z1.trans (z2.trans z3 e2) e1
  refine wpAny_truthy_bool ?_
  cases p with
  | false => exact h _ Z3 e13 z13
  | true =>
    refine test_last (h4.run F A Z3 W s3 _ _ hsc ok st3 fun y s4 Z4 e4 z4 r4 => ?_)
    refine h5 A Z4 s4 w y _ _ ok z4.lt ((r2.ext e3 z3).ext e4 z4) r4 fun x s5 Z5 e5 z5 r5 => ?_
    simp only [Rep] at r5
    subst r5
    exact wpAny_truthy_bool (h _ Z5 (e13.trans' (e4.trans' e5)) (z13.trans (z4.trans z5 e4) e13))

/-! while -/
structure ExW (G : Gc) (n : Nat) (sc : Scope) (σ : Loc) (test : Expr) (body orelse : List Stmt) (o : Out) : Prop where
  run : ∀ (F : Fi) (A : Around) (Z W : Addr → Prop) (s : Shared) (R : Result → Shared → Prop), F.sc = sc → F.own = true → OkA n A → St G F Z W σ s →
    (∀ fl s' Z' W', Gr Z W s Z' W' s' → OutAt G F Z' W' o fl s' → R (.ok fl) s') → codeAny (model G.prog G.w) A (.whileLoop test body orelse F.env) R s
theorem whileTurn_at {A : Around} {env : Env} {test : Expr} {body orelse : List Stmt} {R : Result → Shared → Prop} {s : Shared}
    (h : wpAny (model G.prog G.w) A (isTrue test env (eval test env)) (fun b s₂ =>
        if b = true then wpAny (model G.prog G.w) A (execs body env) (fun f s₃ => match f with
            | .next | .cont => codeAny (model G.prog G.w) A (.whileLoop test body orelse env) R s₃
            | .brk => R (.ok .next) s₃
            | .ret v => R (.ok (.ret v)) s₃) (notedBy (model G.prog G.w) A env fun e s' => R (.error e) s') s₂
        else wpAny (model G.prog G.w) A (execs orelse env) (fun f s₃ => R (.ok f) s₃) (notedBy (model G.prog G.w) A env fun e s' => R (.error e) s') s₂)
        (notedBy (model G.prog G.w) A env fun e s' => R (.error e) s') s) : codeAny (model G.prog G.w) A (.whileLoop test body orelse env) R s := by
  refine codeAny_of_tree ?_
  rw [Around.under_of_weight (c := .whileLoop test body orelse env) rfl rfl]
  show wpAny _ A ((whileTurn test body orelse env).onRaise (fun x => do noteFrame x env; theTreesLotGoes x)) _ _ s
  refine wpAny_noted ?_
  simp only [whileTurn]
  refine wpAny_bind (wpAny_mono h (fun b s₂ h₂ => ?_) fun _ _ h' => h')
  cases b with
  | false =>
    simp only [Bool.false_eq_true, if_false] at h₂ ⊢
    exact wpAny_bind (wpAny_mono h₂ (fun f s₃ h₃ => wpAny_pure h₃) fun _ _ h' => h')
  | true =>
    simp only [if_true] at h₂ ⊢
    refine wpAny_bind (wpAny_mono h₂ (fun f s₃ h₃ => ?_) fun _ _ h' => h')
    cases f with
    | next => exact wpAny_pure ⟨rfl, h₃⟩
    | cont => exact wpAny_pure ⟨rfl, h₃⟩
    | brk => exact wpAny_pure h₃
    | ret v => exact wpAny_pure h₃
theorem ExW.stop {test : Expr} {body orelse : List Stmt} (h1 : EvT G n sc σ test false) (h2 : Ex G n sc σ orelse o) : ExW G n sc σ test body orelse o := by
  refine ⟨fun F A Z W s R hsc ho ok st h => ?_⟩
  refine whileTurn_at (h1.run F A Z W s _ _ hsc ok st fun s1 Z1 e1 z1 => ?_)
  rw [if_neg Bool.false_ne_true]
  exact h2.run F A Z1 W s1 _ _ hsc ho ok (st.ext e1 z1) fun fl s2 Z2 W2 g2 o2 => h fl s2 Z2 W2 ((Gr.of e1 z1).trans g2) o2
theorem ExW.turn {test : Expr} {body orelse : List Stmt} {o1 : Out} (h1 : EvT G n sc σ test true) (hb : Ex G n sc σ body o1) (hn : ∀ τ', o1 = .next τ' → ExW G n sc τ' test body orelse o) (hc : ∀ τ', o1 = .cont τ' → ExW G n sc τ' test body orelse o)
    (hk : ∀ τ', o1 = .brk τ' → o = .next τ') (hr : ∀ p, o1 = .ret p → o = .ret p) : ExW G n sc σ test body orelse o := by
  refine ⟨fun F A Z W s R hsc ho ok st h => ?_⟩
  refine whileTurn_at (h1.run F A Z W s _ _ hsc ok st fun s1 Z1 e1 z1 => ?_)
  rw [if_pos rfl]
  refine hb.run F A Z1 W s1 _ _ hsc ho ok (st.ext e1 z1) fun fl s2 Z2 W2 g2 o2 => ?_
  have g := (Gr.of (W := W) e1 z1).trans g2
  cases o1 with
  | next τ' => obtain ⟨rfl, st3⟩ := o2; exact (hn τ' rfl).run F A Z2 W2 s2 R hsc ho ok st3 fun fl s3 Z3 W3 g3 o3 => h fl s3 Z3 W3 (g.trans g3) o3
  | cont τ' => obtain ⟨rfl, st3⟩ := o2; exact (hc τ' rfl).run F A Z2 W2 s2 R hsc ho ok st3 fun fl s3 Z3 W3 g3 o3 => h fl s3 Z3 W3 (g.trans g3) o3
  | brk τ' =>
    obtain ⟨rfl, st3⟩ := o2
    have := hk τ' rfl
    subst this
    exact h _ s2 Z2 W2 g ⟨rfl, st3⟩
  | ret p =>
    obtain ⟨v', rfl, r3, st3⟩ := o2
    have := hr p rfl
    subst this
    exact h _ s2 Z2 W2 g ⟨v', rfl, r3, st3⟩
theorem ExW.next {test : Expr} {body orelse : List Stmt} (h1 : EvT G n sc σ test true) (hb : Ex G n sc σ body (.next τ)) (h : ExW G n sc τ test body orelse o) : ExW G n sc σ test body orelse o :=
  ExW.turn h1 hb (fun _ e => by cases e; exact h) (fun _ e => by cases e) (fun _ e => by cases e) (fun _ e => by cases e)
theorem ExW.weak {test : Expr} {body orelse : List Stmt} (h1 : ExW G n sc τ test body orelse o) (h : subL τ σ) : ExW G n sc σ test body orelse o :=
  ⟨fun F A Z W s R hsc ho ok st => h1.run F A Z W s R hsc ho ok (st.weak h.out)⟩
theorem Ex1.while_ {test : Expr} {body orelse : List Stmt} {pos} (h : ExW G n sc σ test body orelse o) : Ex1 G n sc σ (.While test body orelse pos) o := by
  refine ⟨fun F A Z W s Q E hsc ho ok st k => ?_⟩
  exact wpAny_While (h.run F A Z W s _ hsc ho ok st k)

/-! a list that the frame holds alone -/
theorem VarAt.inj {F : Fi} {h : Heap} {x : Str} {v w : Value} (a : VarAt F h x v) (b : VarAt F h x w) : v = w := by
  rcases a with ⟨k, m, hn, hm⟩ | ⟨k, c, hc, oc, h2, h3⟩ <;> rcases b with ⟨k', m', hn', hm'⟩ | ⟨k', c', hc', oc', h2', h3'⟩
  · rw [ns_same hn hn', hm'] at hm; cases hm; rfl
  · rw [k] at k'; cases k'
  · rw [k] at k'; cases k'
  · rw [hc] at hc'; cases hc'
    rw [h2] at h2'; cases h2'
    rw [h3] at h3'; cases h3'; rfl
theorem VarAt.but {F : Fi} {Z W : Addr → Prop} {s : Shared} {h' : Heap} {a : Addr} {vs : Array Value} {y : Str} {v : Value} (st : St G F Z W σ s) (hp : s.heap.PlainList a vs) (hs : Heap.SameBut a s.heap h') (r : VarAt F s.heap y v) : VarAt F h' y v := by
  rcases r with ⟨k, m, hn, hm⟩ | ⟨k, c, hc, hv⟩
  · exact .inl ⟨k, m, hn.sameBut hs (Ne.symm (list_ne hn hp)), hm⟩
  · have := list_ne_cell hv hp
    obtain ⟨oc, h2, h3⟩ := hv
    exact .inr ⟨k, c, hc, oc, (hs.2 c (Ne.symm this)).trans h2, h3⟩
theorem St.ownUpd {F : Fi} {Z W : Addr → Prop} {s : Shared} {x : Str} {xs : List PV} (st : St G F Z W σ s) (hx : σ.lookup x = some (.own xs)) :
    ∃ a vs, W a ∧ VarAt F s.heap x (.ref a) ∧ s.heap.PlainList a vs.toArray ∧ Reps Z s.heap xs vs ∧
      ∀ (h' : Heap) (ws : List Value) (ys : List PV) (tk : Nat), h'.PlainList a ws.toArray → Heap.SameBut a s.heap h' → Reps Z s.heap ys ws → Gr Z W s Z W { s with heap := h', toks := tk } ∧ St G F Z W ((x, .own ys) :: σ) { s with heap := h', toks := tk } := by
  obtain ⟨ad, h1, h2⟩ := st.owns
  obtain ⟨wa, va, vs, hp, hr⟩ := h1 x xs hx
  refine ⟨ad x, vs, wa, va, hp, hr, fun h' ws ys tk hp' hs hr' => ?_⟩
  have live : ∀ b o, s.heap.get? b = some o → ∃ o', h'.get? b = some o' := fun b o e => by
    by_cases q : b = ad x
    · obtain ⟨k, e'⟩ := hp'; exact ⟨_, q ▸ e'⟩
    · exact ⟨o, (hs.2 b q).trans e⟩
  have nw : ∀ b, ¬ W b → b ≠ ad x := fun b nb e => nb (e ▸ wa)
  have g : Gr Z W s Z W { s with heap := h', toks := tk } := ⟨⟨fun b o nb e => (hs.2 b (nw b nb)).trans e, Nat.le_refl _, fun _ _ _ e => e, rfl, fun x => x⟩, fun _ z => z, fun _ z => .inl z, fun _ w => .inl w⟩
  have zk : ∀ b o, Z b → s.heap.get? b = some o → h'.get? b = some o := fun b o z e => g.ext.keep b o (st.disj b z) e
  obtain ⟨m, hm⟩ := st.ns
  refine ⟨g, {
    b0 := st.b0
    hk := fun b o e => (hs.2 b (fun q => by have := st.wn0 _ wa; rw [← q, e] at this; cases this)).trans (st.hk b o e)
    bare := st.bare
    zlt := fun b z => let ⟨o, e⟩ := st.zlt b z; live b o e
    wlt := fun b w => let ⟨o, e⟩ := st.wlt b w; live b o e
    wn0 := st.wn0
    disj := st.disj
    z0 := st.z0
    z1 := st.z1
    LW := st.LW
    kind := st.kind
    ns := ⟨m, hm.sameBut hs (Ne.symm (list_ne hm hp))⟩
    cells := fun ho y hy => by
      obtain ⟨c, v, q1, q2, q3⟩ := st.cells ho y hy
      have := list_ne_cell q2 hp
      obtain ⟨oc, h2, h3⟩ := q2
      exact ⟨c, v, q1, ⟨oc, (hs.2 c (Ne.symm this)).trans h2, h3⟩, q3⟩
    inj := st.inj
    ownd := st.ownd
    vals := fun y p hy => by
      by_cases q : y = x
      · subst q; rw [lookup_cons_self] at hy; cases hy
      · rw [lookup_cons_ne _ _ q] at hy
        obtain ⟨w, q1, q2⟩ := st.vals y p hy
        exact ⟨w, q1.but st hp hs, q2.mono (fun _ z => z) zk⟩
    owns := ?_ }⟩
  have look : ∀ y ys', List.lookup y ((x, Slot.own ys) :: σ) = some (.own ys') → y = x ∧ ys' = ys ∨ y ≠ x ∧ σ.lookup y = some (.own ys') := fun y ys' hy => by
    by_cases q : y = x
    · subst q; rw [lookup_cons_self] at hy; cases hy; exact .inl ⟨rfl, rfl⟩
    · rw [lookup_cons_ne _ _ q] at hy; exact .inr ⟨q, hy⟩
  have look' : ∀ y ys', List.lookup y ((x, Slot.own ys) :: σ) = some (.own ys') → ∃ zs, σ.lookup y = some (.own zs) := fun y ys' hy => by
    rcases look y ys' hy with ⟨rfl, _⟩ | ⟨_, h⟩
    · exact ⟨_, hx⟩
    · exact ⟨_, h⟩
  refine ⟨ad, fun y ys' hy => ?_, fun y z ys' zs' hy hz hyz => ?_⟩
  · rcases look y ys' hy with ⟨rfl, rfl⟩ | ⟨q, hy'⟩
    · exact ⟨wa, va.but st hp hs, ws, hp', hr'.mono (fun _ z => z) zk⟩
    · obtain ⟨a1, a2, us, ⟨k, a3⟩, a4⟩ := h1 y ys' hy'
      exact ⟨a1, a2.but st hp hs, us, ⟨k, (hs.2 _ (h2 y x ys' xs hy' hx q)).trans a3⟩, a4.mono (fun _ z => z) zk⟩
  · obtain ⟨_, hy'⟩ := look' y ys' hy
    obtain ⟨_, hz'⟩ := look' z zs' hz
    exact h2 y z _ _ hy' hz' hyz

theorem St.load {F : Fi} {Z W : Addr → Prop} {s : Shared} {x : Str} {v : Value} {p : Pos} {A : Around} {Q : Value → Shared → Prop} {E : Value → Shared → Prop} (st : St G F Z W σ s) (hv : VarAt F s.heap x v) (hd : (x == ("__debug__" : Str)) = false) (h : Q v s) :
    wpAny (model G.prog G.w) A (eval (.Name x p) F.env) Q E s := by
  rcases hv with ⟨k, m, hn, hm⟩ | ⟨k, c, hc, hv⟩
  · exact wpAny_Name (wpAny_loadName_local (env := F.env) st.kind k hn hm h) hd
  · exact wpAny_Name (wpAny_loadName_cell (env := F.env) st.kind k hc hv h) hd

theorem plainL {h : Heap} {a : Addr} {vs : Array Value} (hp : h.PlainList a vs) : PlainL h a vs := by
  obtain ⟨k, e⟩ := hp
  exact ⟨_, k, e, rfl, rfl, rfl⟩

theorem St.inter {F : Fi} {Z W : Addr → Prop} {s : Shared} (st : St G F Z W σ s) : interactive F.env = false := by
  unfold interactive
  rw [show F.env.scope.kind = .function from st.kind]
  rfl
/-- x.append(e) -/
theorem Ex1.append {x : Str} {e : Expr} {xs : List PV} {pv : PV} {p ap cp pos : Pos} (hx : σ.lookup x = some (.own xs)) (h1 : Ev G n sc σ e pv) (hd : (x == ("__debug__" : Str)) = false) (hlen : xs.length < 1000000)
    (hs : ∀ env, swapsWith (.Call (.Attribute (.Name x p) "append" ap) [e] [] cp) none pos.line env = pure false) 
    (hbase : ∀ F : Fi, F.sc = sc → attributeBase (.Name x p) "append" F.env (eval (.Name x p) F.env) = eval (.Name x p) F.env)
    (hfew : ∀ env, ((backTo cp (starEach [e] env)).all (fun x => !x.1) && (backToKw cp (keywordEach [] env)).all (fun x => x.1.isSome)
      && decide (([e] : List Expr).length + ([] : List Keyword).length + (if ([] : List Keyword).isEmpty then 0 else 1) < 30)) = true)
    (hline : (ap.endLine == cp.line) = true) (htrees : ∀ env, backTo cp (starEach [e] env) = [(false, eval e env)]) :
    Ex1 G n sc σ (.Expr (.Call (.Attribute (.Name x p) "append" ap) [e] [] cp) pos) (.next ((x, .own (xs ++ [pv])) :: σ)) := by
  refine ⟨fun F A Z W s Q E hsc ho ok st h => ?_⟩
  refine wpAny_Expr_any (wpAny_Call_append (hbase F hsc) (hfew _) hline (htrees _) ?_) st.inter (hs _)
  obtain ⟨a, vs, wa, va, hp, hr, _⟩ := st.ownUpd hx
  refine st.load va hd ⟨a, vs.toArray, rfl, plainL hp, ?_⟩
  refine h1.run F A Z W s _ _ hsc ok st fun y s1 Z1 e1 z1 r1 => ?_
  have st1 := st.ext e1 z1
  obtain ⟨a1, vs1, wa1, va1, hp1, hr1, upd⟩ := st1.ownUpd hx
  have ea : Value.ref a = .ref a1 := (va.mono e1.keep').inj va1
  cases ea
  refine wpAny_list_append_plain hp1 (fun h' hp' hs' => ?_) (by rw [List.size_toArray, hr1.length, sizeLine_eq]; omega)
  obtain ⟨g2, st2⟩ := upd h' (vs1 ++ [y]) (xs ++ [pv]) s1.toks (by simpa using hp') hs' (hr1.append ⟨y, [], rfl, r1, rfl⟩)
  exact h _ _ Z1 W ((Gr.of e1 z1).trans g2) ⟨rfl, st2⟩

def delAt (l : List PV) (i : Int) : List PV := match seqIndex? i l.length with
  | some k => l.eraseIdx k
  | none => l
theorem Reps.erase {Z : Addr → Prop} {h : Heap} : ∀ (k : Nat) {xs : List PV} {vs : List Value}, Reps Z h xs vs → Reps Z h (xs.eraseIdx k) (vs.eraseIdx k)
  | k, [], vs, r => by simp only [Reps] at r; subst r; simp [Reps]
  | 0, x :: xs, vs, r => by
    simp only [Reps] at r
    obtain ⟨v, us, e, r1, r2⟩ := r
    subst e
    exact r2
  | k + 1, x :: xs, vs, r => by
    simp only [Reps] at r
    obtain ⟨v, us, e, r1, r2⟩ := r
    subst e
    exact ⟨v, us.eraseIdx k, rfl, r1, Reps.erase k r2⟩
/-- del x[i] -/
theorem Ex1.delItem {x : Str} {e : Expr} {xs : List PV} {i : Int} {k : Nat} {p sp pos : Pos} (hx : σ.lookup x = some (.own xs)) (h1 : Ev G n sc σ e (.int i)) (hd : (x == ("__debug__" : Str)) = false) (hlen : xs.length ≤ 1000000) (hk : seqIndex? i xs.length = some k) :
    Ex1 G n sc σ (.Delete [.Subscript (.Name x p) e sp] pos) (.next ((x, .own (xs.eraseIdx k)) :: σ)) := by
  refine ⟨fun F A Z W s Q E hsc ho ok st h => ?_⟩
  refine wpAny_Delete (wpAny_deleteEach_cons (wpAny_delete_Subscript ?_))
  obtain ⟨a, vs, wa, va, hp, hr, _⟩ := st.ownUpd hx
  refine st.load va hd ?_
  refine h1.run F A Z W s _ _ hsc ok st fun y s1 Z1 e1 z1 r1 => ?_
  simp only [Rep] at r1
  obtain ⟨t, rfl⟩ := r1
  have st1 := st.ext e1 z1
  obtain ⟨a1, vs1, wa1, va1, hp1, hr1, upd⟩ := st1.ownUpd hx
  have ea : Value.ref a = .ref a1 := (va.mono e1.keep').inj va1
  cases ea
  have hb := seqIndex_spec hk
  refine wpAny_delItem_plain hp1 (k := k) ?_ (by rw [List.size_toArray, hr1.length]; exact hk) (fun h' hp' hs' => ?_) (by rw [List.size_toArray, hr1.length, sizeLine_eq]; omega)
  · unfold Builtin.List.listFitsIndex
    first
      | (simp only [Bool.not_eq_true', Bool.or_eq_false_iff, Bool.and_eq_true, decide_eq_true_eq, decide_eq_false_iff_not]; omega)
      | (simp; omega)
  · obtain ⟨g2, st2⟩ := upd h' (vs1.eraseIdx k) (xs.eraseIdx k) s1.toks (by simpa using hp') hs' (hr1.erase k)
    exact wpAny_deleteEach_nil (h _ _ Z1 W ((Gr.of e1 z1).trans g2) ⟨rfl, st2⟩)
end
end Mine
namespace Mine

section
variable {G : Gc} {n : Nat} {σ τ κ : Loc} {sc : Scope} {o : Out}

theorem Ev.nm {x : Str} {pv : PV} {pos} (hx : σ.lookup x = some (.val pv)) (hd : (x == ("__debug__" : Str)) = false := by decide) : Ev G n sc σ (.Name x pos) pv := Ev.name hx hd

theorem Ev.comp {elt t iter : Expr} {ifs : List Expr} {scope : Scope} {pos : Pos} {xs ys : List PV}
    (h1 : EvI G n sc σ iter xs true) (hlen : xs.length ≤ 1000000) (hc : CompOk G n (relab scope sc) κ t ifs elt xs ys) (hcap : Caps sc scope σ κ) (hfree : FreeOk sc scope) (hdot : (relab scope sc).names.lookup (".0" : Str) ≠ none) (hf : sc.names.lookup (".0" : Str) = none)
    (hcell : ∀ y ∈ scope.names, y.2 ≠ .cell) (hkind : scope.kind = .function) (hnames : ∀ y ∈ scope.names, y.2 = .local → scope.names.lookup y.1 = some .local) (hs : ∀ env x, foldedSetIterable iter env x = pure x) :
    Ev G n sc σ (.ListComp elt [⟨t, iter, ifs, 0⟩] scope pos) (.list ys) := by
  refine ⟨fun F A Z W s Q E hsc ok st h => ?_⟩
  have hown : F.own = true := st.ownd (by rw [hsc]; exact hf)
  rw [eval_ListComp]
  refine wpAny_comprehension_free (use := none) rfl (hs _) (st.closure hsc hown hfree) hkind hnames (comp_block (pos := pos) (E1 := E) hsc hown ok st h1 hlen hc hcap hfree hdot hcell hkind (RR := fun acc C => compPost (model G.prog G.w) A E none Q acc C) fun D C s' Z' ws ce => ?_)
  obtain ⟨m, hm⟩ := ce.ns
  refine ⟨m, hm, fun h' hs' => ?_⟩
  obtain ⟨q1, q2, q3, q4⟩ := ce.gone hs'
  obtain ⟨k, q3'⟩ := q3
  refine h _ _ (fun b => Z' b ∨ b = D) q1 ⟨fun b z => .inl (q2.sub b z), fun b z => z.elim (q2.new b) fun e => .inr (e ▸ ce.dD), fun b z => z.elim (q2.lt b) fun e => ⟨_, e ▸ q3'⟩⟩ ?_
  simp only [Rep]
  exact ⟨D, ws, rfl, .inr rfl, ⟨_, q3', rfl, _, rfl⟩, q4.mono (fun _ z => .inl z) fun _ _ _ e => e⟩

theorem swaps_comp {elt t iter : Expr} {ifs : List Expr} {scope : Scope} {cp p : Pos} {x : Str} {line : Nat} {env : Env} : ∃ b : Bool, swapsWith (.ListComp elt [⟨t, iter, ifs, 0⟩] scope cp) (some (.Name x p)) line env = pure b := ⟨_, rfl⟩

theorem Ex1.assignComp {x : Str} {elt t iter : Expr} {ifs : List Expr} {scope : Scope} {cp p pos : Pos} {xs ys : List PV}
    (h1 : EvI G n sc σ iter xs true) (hlen : xs.length ≤ 1000000) (hc : CompOk G n (relab scope sc) κ t ifs elt xs ys) (hcap : Caps sc scope σ κ) (hfree : FreeOk sc scope) (hdot : (relab scope sc).names.lookup (".0" : Str) ≠ none) (hf : sc.names.lookup (".0" : Str) = none)
    (hcell : ∀ y ∈ scope.names, y.2 ≠ .cell) (hkind : scope.kind = .function) (hnames : ∀ y ∈ scope.names, y.2 = .local → scope.names.lookup y.1 = some .local) (hs : ∀ env x, foldedSetIterable iter env x = pure x)
    (hk : sc.names.lookup x = some .local ∨ sc.names.lookup x = some .cell) :
    Ex1 G n sc σ (.Assign [.Name x p] (.ListComp elt [⟨t, iter, ifs, 0⟩] scope cp) pos) (.next ((x, .val (.list ys)) :: σ)) := by
  refine ⟨fun F A Z W s Q E hsc ho ok st h => ?_⟩
  obtain ⟨b, hb⟩ := swaps_comp (elt := elt) (t := t) (iter := iter) (ifs := ifs) (scope := scope) (cp := cp) (p := p) (x := x) (line := pos.line) (env := F.env)
  cases b with
  | false =>
    refine wpAny_Assign_Name ((Ev.comp (pos := cp) h1 hlen hc hcap hfree hdot hf hcell hkind hnames hs).run F A Z W s _ _ hsc ok st fun v s1 Z1 e1 z1 r1 => ?_) hb
    exact (st.ext e1 z1).put ho (by rw [hsc]; exact hk) r1 fun s2 g2 st2 => h _ s2 Z1 W ((Gr.of e1 z1).trans g2) ⟨rfl, st2⟩
  | true =>
    rw [exec_Assign_Name_used _ _ _ _ hb]
    refine wpAny_bind (wpAny_standAt (wpAny_bind ?_))
    show wpAny _ A (do let _ ← comprehension (.ListComp elt [⟨t, iter, ifs, 0⟩] scope cp) scope F.env _ (newList []) false (eval iter F.env) (some (PySem.assign (.Name x p) F.env))) _ _ s
    refine wpAny_bind (wpAny_mono (wpAny_comprehension_free (use := some (PySem.assign (.Name x p) F.env)) (Q := fun _ s' => Q .next s') rfl (hs _) (st.closure hsc ho hfree) hkind hnames
      (comp_block (pos := cp) (E1 := E) hsc ho ok st h1 hlen hc hcap hfree hdot hcell hkind (RR := fun acc C => compPost (model G.prog G.w) A E (some (PySem.assign (.Name x p) F.env)) (fun _ s' => Q .next s') acc C) fun D C s' Z' ws ce => ?_)) (fun _ s' hq => wpAny_pure (wpAny_pure hq)) fun _ _ e => e)
    show wpAny _ A (PySem.assign (.Name x p) F.env (.ref D)) _ _ _
    obtain ⟨k, hpl⟩ := ce.pl
    have z1 : ZG Z s (fun b => Z' b ∨ b = D) s' := ⟨fun b z => .inl (ce.zg.sub b z), fun b z => z.elim (ce.zg.new b) fun e => .inr (e ▸ ce.dD), fun b z => z.elim (ce.zg.lt b) fun e => ⟨_, e ▸ hpl⟩⟩
    have st1 := st.ext ce.ext z1
    have nWC : ¬ W C := fun w => by obtain ⟨o, e⟩ := st.wlt C w; rw [ce.dC] at e; cases e
    refine wpAny_assign_Name (st1.put ho (by rw [hsc]; exact hk) (pv := .list ys) ?_ fun s2 g2 st2 => ?_)
    · simp only [Rep]
      exact ⟨D, ws, rfl, .inr rfl, ⟨_, hpl, rfl, _, rfl⟩, ce.rs.mono (fun _ z => .inl z) fun _ _ _ e => e⟩
    · obtain ⟨m, oc, es, ep, q1, q2⟩ := ce.ns
      refine ⟨m, ⟨oc, es, ep, g2.ext.keep C _ nWC q1, q2⟩, fun h' hs' => ?_⟩
      have e3 : ExtG (fun b => b = C) (fun _ => False) s2 { s2 with heap := h' } := ⟨fun b o nb e => (hs'.2 b nb).trans e, Nat.le_refl _, fun _ _ _ e => e, rfl, fun x => x⟩
      have nZC : ∀ b, (Z' b ∨ b = D) → b ≠ C := fun b z q => z.elim (fun z => ce.zC (q ▸ z)) fun e => ce.ne (e.symm.trans q)
      have z3 : ZG (fun b => Z' b ∨ b = D) s2 (fun b => Z' b ∨ b = D) { s2 with heap := h' } := ⟨fun _ z => z, fun _ z => .inl z, fun b z => let ⟨o, e⟩ := st2.zlt b z; ⟨o, e3.keep b o (nZC b z) e⟩⟩
      have h0C : F.h0.get? C = none := by
        cases e : F.h0.get? C with
        | none => rfl
        | some o => have := st.hk C o e; rw [ce.dC] at this; cases this
      have st3 := st2.step e3 z3 (fun b w q => nWC (q ▸ w)) nZC (fun b q => by have q : b = C := q; rw [q]; exact h0C) (noTrue ho)
      have ga : Gr Z W s (fun b => Z' b ∨ b = D) W s2 := (Gr.of ce.ext z1).trans g2
      exact h _ _ _ W ⟨ga.ext.trans e3 (fun b w => .inr (by have w : b = C := w; rw [w]; exact ce.dC)) (fun _ h => h.elim), ga.zs, ga.zw, ga.wg⟩ ⟨rfl, st3⟩

/-! methods -/
theorem Ev.methS {id : String} {name : Str} {ob e : Expr} {es : List Expr} {a : Tx} {xs : List PV} {c : PV} {apos pos : Pos} (slot : PySem.Slot "str" name id) (ty : typeOf (.builtin id) = pure (.type "method_descriptor"))
    (h1 : Ev G n sc σ ob (.str a)) (h2 : EvL G n sc σ (e :: es) xs) (h3 : CallV G n (.builtin id) (.str a :: xs) c)
    (hbase : ∀ env, attributeBase ob name env (eval ob env) = eval ob env)
    (hfew : ∀ env, ((backTo pos (starEach (e :: es) env)).all (fun x => !x.1) && (backToKw pos (keywordEach [] env)).all (fun x => x.1.isSome)
      && decide ((e :: es).length + ([] : List Keyword).length + (if ([] : List Keyword).isEmpty then 0 else 1) < 30)) = true)
    (hline : (apos.endLine == pos.line) = true)
    (he : ∀ env pos, backTo pos (starEach (e :: es) env) = (false, eval e env) :: backTo pos (starEach es env)) (hs : ∀ env pos, (backTo pos (starEach (e :: es) env)).any (·.1) = false) :
    Ev G n sc σ (.Call (.Attribute ob name apos) (e :: es) [] pos) c := by
  refine ⟨fun F A Z W s Q E hsc ok st h => ?_⟩
  refine wpAny_Call_method_lateS (hbase _) (hfew _) hline (h1.run F A Z W s _ _ hsc ok st fun v s1 Z1 e1 z1 r1 => ?_)
  have st1 := st.ext e1 z1
  have r1' := r1
  simp only [Rep] at r1'
  obtain ⟨t, rfl⟩ := r1'
  refine ⟨"str", id, PySem.F.plainAttrs_str, slot, ty, typeIs_str _ _ _, (fun _ e => nomatch e), ?_⟩
  refine Calls.callWith_builtin (hs _ _) ?_
  rw [he]
  refine Calls.evalArgs_plain ?_
  rw [← he]
  refine h2.run F A Z1 W s1 _ _ pos hsc ok st1 fun vs s2 Z2 e2 z2 r2 => ?_
  have e12 := e1.trans' e2
  have z12 := z1.trans z2 e1
  refine h3 A Z2 s2 (.str (mkS a) t :: vs) _ _ ok (st.bs.ext e12) z2.lt ⟨_, _, rfl, r1.ext e2 z2, r2⟩ fun r s3 Z3 e3 z3 r3 => h _ _ Z3 (e12.trans' e3) (z12.trans z3 e12) r3

theorem CallV.startswith {a b : Tx} : CallV G n (.builtin "str.startswith") [.str a, .str b] (.bool (prefixB b a)) := by
  intro A Z s vs Q E ok bs zl r h
  simp only [Reps, Rep] at r
  obtain ⟨v, ws, rfl, ⟨t, rfl⟩, w, us, rfl, ⟨u, rfl⟩, rfl⟩ := r
  refine SC.startswith ?_
  have : Txt.startswith (mkS a) (mkS b) = prefixB b a := by
    unfold Txt.startswith
    rw [mkS_len, mkS_len]
    by_cases q : 0 + b.length ≤ a.length
    · rw [subAt_mkS _ _ _ q]; simp; omega
    · rw [decide_eq_false q, Bool.false_and]
      cases e : prefixB b a with
      | false => rfl
      | true => have := prefixB_len e; omega
  rw [this]
  exact fin0 h zl (by simp [Rep])
def suffixB (b a : Tx) : Bool := decide (b.length ≤ a.length) && prefixB b (a.drop (a.length - b.length))
theorem CallV.endswith {a b : Tx} : CallV G n (.builtin "str.endswith") [.str a, .str b] (.bool (suffixB b a)) := by
  intro A Z s vs Q E ok bs zl r h
  simp only [Reps, Rep] at r
  obtain ⟨v, ws, rfl, ⟨t, rfl⟩, w, us, rfl, ⟨u, rfl⟩, rfl⟩ := r
  refine SC.endswith ?_
  have : Txt.endswith (mkS a) (mkS b) = suffixB b a := by
    unfold Txt.endswith suffixB
    rw [mkS_len, mkS_len]
    by_cases q : b.length ≤ a.length
    · rw [subAt_mkS _ _ _ (by omega)]; simp
    · rw [decide_eq_false q, decide_eq_false (by omega), Bool.false_and, Bool.false_and]
  rw [this]
  exact fin0 h zl (by simp [Rep])

/-! the first place of a part -/
def findGo (sub : Tx) (hi : Nat) : Nat → Tx → Option Nat
  | i, [] => if decide (i + sub.length ≤ hi) && prefixB sub [] then some i else none
  | i, x :: t => if decide (i + sub.length ≤ hi) && prefixB sub (x :: t) then some i else findGo sub hi (i + 1) t
def findTl (sub : Tx) (hi i : Nat) : Tx → Option Nat
  | [] => none
  | _ :: t => findGo sub hi (i + 1) t
theorem findGo_eq (sub : Tx) (hi i : Nat) (rest : Tx) : findGo sub hi i rest = if (decide (i + sub.length ≤ hi) && prefixB sub rest) = true then some i else findTl sub hi i rest := by
  cases rest <;> rfl
theorem occ_keeps1 (s sub : Str) (hi : Nat) (a : Nat) : ∀ (l : List Nat) (st : Array Nat × Nat), st.fst = #[a] → (forIn l st (StrLaws.occBody s sub hi 1)).run.fst = #[a]
  | [], st, h => h
  | b :: l, st, h => by
    rw [List.forIn_cons]
    unfold StrLaws.occBody
    rw [if_neg (by rintro ⟨⟨⟨h1, _⟩, _⟩, _⟩; rw [h] at h1; simp at h1)]
    exact occ_keeps1 s sub hi a l _ h
theorem occ_find (x sub : Tx) (hi : Nat) (hhi : hi ≤ x.length) : ∀ (m i free : Nat) (rest : Tx), free ≤ i → i + rest.length = x.length → x.drop i = rest → (i + m = hi + 1 ∨ (m = 0 ∧ hi < i)) →
    (forIn (List.range' i m) ((#[] : Array Nat), free) (StrLaws.occBody (mkS x) (mkS sub) hi 1)).run.fst.toList = (match findGo sub hi i rest with | some k => [k] | none => []) := by
  intro m
  induction m with
  | zero =>
    intro i free rest hf hl hd hm
    have hlt : hi < i := by omega
    have : ∀ (rest : Tx) (i : Nat), hi < i → findGo sub hi i rest = none := by
      intro rest
      induction rest with
      | nil => intro i q; unfold findGo; rw [decide_eq_false (by omega), Bool.false_and, if_neg Bool.false_ne_true]
      | cons y t ih => intro i q; unfold findGo; rw [decide_eq_false (by omega), Bool.false_and, if_neg Bool.false_ne_true]; exact ih (i + 1) (by omega)
    rw [this rest i hlt]
    rfl
  | succ m ih =>
    intro i free rest hf hl hd hm
    have him : i + (m + 1) = hi + 1 := by omega
    rw [List.range'_succ, List.forIn_cons]
    unfold StrLaws.occBody
    have hsub : i + sub.length ≤ x.length → Builtin.Str.subAt (mkS x) (mkS sub) i = prefixB sub rest := fun q => by rw [subAt_mkS _ _ _ q, hd]
    rw [findGo_eq]
    by_cases q : (decide (i + sub.length ≤ hi) && prefixB sub rest) = true
    · rw [if_pos q]
      obtain ⟨q1, q2⟩ := Bool.and_eq_true_iff.mp q
      have q1 := of_decide_eq_true q1
      rw [if_pos ⟨⟨⟨by simp, hf⟩, by rw [mkS_len]; exact q1⟩, by rw [hsub (by omega)]; exact q2⟩]
      show (forIn _ _ (StrLaws.occBody (mkS x) (mkS sub) hi 1)).run.fst.toList = _
      rw [occ_keeps1 (mkS x) (mkS sub) hi i _ _ rfl]
    · rw [if_neg q]
      rw [if_neg (by
        rintro ⟨⟨_, h2⟩, h3⟩
        rw [mkS_len] at h2
        rw [hsub (by omega)] at h3
        exact q (by rw [decide_eq_true h2, h3]; rfl))]
      show (forIn _ _ (StrLaws.occBody (mkS x) (mkS sub) hi 1)).run.fst.toList = _
      cases rest with
      | nil =>
        have : m = 0 := by simp at hl; omega
        subst this
        rfl
      | cons y t =>
        exact ih (i + 1) free t (by omega) (by simp at hl; omega) (by rw [← List.drop_drop, hd]; rfl) (.inl (by omega))
def findL (x sub : Tx) (lo hi : Nat) : Int := match findGo sub hi lo (x.drop lo) with
  | some k => k
  | none => -1
theorem gives_find4 (x y : Str) (i j : Int) (t u v w : Tok) : Gives (Builtin.«str.find» ⟨[.str x t, .str y u, .int i v, .int j w], []⟩) (.int (match Builtin.Str.occurrences x y (PySem.fromIndex x.length i) (min (PySem.fromIndex x.length j) x.length) 1 with | k :: _ => (k : Int) | [] => -1)) := by
  show Gives (match Builtin.Str.occurrences x y (PySem.fromIndex x.length i) (min (PySem.fromIndex x.length j) x.length) 1 with | k :: _ => PySem.retInt k | [] => (do rule "str.find.not-found"; PySem.retInt (-1))) _
  cases Builtin.Str.occurrences x y (PySem.fromIndex x.length i) (min (PySem.fromIndex x.length j) x.length) 1 with
  | nil => exact .rule (.of_eq rfl)
  | cons k _ => exact .of_eq rfl
theorem CallV.find4 {a b : Tx} {i j : Nat} (hij : i ≤ j) (hj : j ≤ a.length) : CallV G n (.builtin "str.find") [.str a, .str b, .int i, .int j] (.int (findL a b i j)) := by
  intro A Z s vs Q E ok bs zl r h
  simp only [Reps, Rep] at r
  obtain ⟨v, ws, rfl, ⟨t, rfl⟩, w, us, rfl, ⟨u, rfl⟩, x, xs, rfl, ⟨p, rfl⟩, y, ys, rfl, ⟨q, rfl⟩, rfl⟩ := r
  refine call_gives PySem.F.slot_str_find (typeIs_str _ _ _) PySem.F.entry_str_find (PySem.F.args_str_find_4 _ _ _ _) (gives_find4 (mkS a) (mkS b) i j t u p q) ?_
  have e1 : PySem.fromIndex (mkS a).length (i : Int) = i := by unfold PySem.fromIndex; split <;> omega
  have e2 : min (PySem.fromIndex (mkS a).length (j : Int)) (mkS a).length = j := by
    rw [mkS_len]; unfold PySem.fromIndex; split <;> omega
  rw [e1, e2, StrLaws.occ_eq, occ_find a b j hj (j + 1 - i) i i (a.drop i) (Nat.le_refl _) (by rw [List.length_drop]; omega) rfl (.inl (by omega))]
  have : (match (match findGo b j i (a.drop i) with | some k => [k] | none => ([] : List Nat)) with | k :: _ => (k : Int) | [] => -1) = findL a b i j := by
    unfold findL
    cases findGo b j i (a.drop i) <;> rfl
  rw [this]
  exact finT h zl (by simp [Rep])
end
end Mine
namespace Mine

/-! split -/
def splitGo (sp : Tx) : Nat → Tx → Tx → List Tx
  | _, cur, [] => [cur]
  | 0, cur, x :: t => if prefixB sp (x :: t) then cur :: splitGo sp (sp.length - 1) [] t else splitGo sp 0 (cur ++ [x]) t
  | k + 1, cur, _ :: t => splitGo sp k cur t
def occAll (sp : Tx) : Nat → Nat → Tx → List Nat
  | _, _, [] => []
  | i, 0, x :: t => if prefixB sp (x :: t) then i :: occAll sp (i + 1) (sp.length - 1) t else occAll sp (i + 1) 0 t
  | i, k + 1, _ :: t => occAll sp (i + 1) k t
theorem occ_all (x sp : Tx) (hsp : 1 ≤ sp.length) (limit : Nat) : ∀ (rest : Tx) (i free : Nat) (found : Array Nat), i + rest.length = x.length → x.drop i = rest → found.size + rest.length + 1 ≤ limit →
    (forIn (List.range' i (rest.length + 1)) (found, free) (StrLaws.occBody (mkS x) (mkS sp) x.length limit)).run.fst.toList = found.toList ++ occAll sp i (free - i) rest := by
  intro rest
  induction rest with
  | nil =>
    intro i free found hl hd hlim
    simp only [List.length_nil, Nat.add_zero, Nat.zero_add] at hl ⊢
    rw [List.range'_succ, List.forIn_cons]
    unfold StrLaws.occBody
    rw [if_neg (by rintro ⟨⟨_, h⟩, _⟩; rw [mkS_len] at h; omega)]
    simp [occAll]
  | cons y t ih =>
    intro i free found hl hd hlim
    simp only [List.length_cons] at hl hlim ⊢
    rw [List.range'_succ, List.forIn_cons]
    unfold StrLaws.occBody
    have hdt : x.drop (i + 1) = t := by rw [← List.drop_drop, hd]; rfl
    have hsub : i + sp.length ≤ x.length → Builtin.Str.subAt (mkS x) (mkS sp) i = prefixB sp (y :: t) := fun q => by rw [subAt_mkS _ _ _ q, hd]
    by_cases hf : free ≤ i
    · have e0 : free - i = 0 := by omega
      rw [e0]
      simp only [occAll]
      by_cases q : prefixB sp (y :: t) = true
      · have hq := prefixB_len q
        simp only [List.length_cons] at hq
        rw [if_pos q, if_pos ⟨⟨⟨by show found.size < limit; omega, hf⟩, by rw [mkS_len]; omega⟩, by rw [hsub (by omega)]; exact q⟩]
        show (forIn _ (found.push i, i + (mkS sp).length) (StrLaws.occBody (mkS x) (mkS sp) x.length limit)).run.fst.toList = _
        rw [ih (i + 1) _ _ (by omega) hdt (by rw [Array.size_push]; omega), mkS_len]
        have e1 : i + sp.length - (i + 1) = sp.length - 1 := by omega
        rw [e1]; simp
      · rw [if_neg q, if_neg (by
          rintro ⟨⟨_, h2⟩, h3⟩
          rw [mkS_len] at h2
          rw [hsub h2] at h3
          exact q h3)]
        show (forIn _ (found, free) (StrLaws.occBody (mkS x) (mkS sp) x.length limit)).run.fst.toList = _
        rw [ih (i + 1) _ _ (by omega) hdt (by omega)]
        have e1 : free - (i + 1) = 0 := by omega
        rw [e1]
    · rw [if_neg (by rintro ⟨⟨⟨_, h2⟩, _⟩, _⟩; exact hf h2)]
      show (forIn _ (found, free) (StrLaws.occBody (mkS x) (mkS sp) x.length limit)).run.fst.toList = _
      rw [ih (i + 1) _ _ (by omega) hdt (by omega)]
      obtain ⟨k, hk⟩ : ∃ k, free - i = k + 1 := ⟨free - i - 1, by omega⟩
      rw [hk]
      have e1 : free - (i + 1) = k := by omega
      rw [e1]
      simp only [occAll]
theorem sub_mkS (x : Tx) (i j : Nat) : Builtin.Str.strSub (mkS x) i j = mkS ((x.drop i).take (j - i)) := by
  apply Str.ext'
  apply Array.toList_inj.mp
  rw [StrLaws.strSub_toList, mkS_cps, mkS_cps]
theorem parts_split (x sp : Tx) (hsp : 1 ≤ sp.length) : ∀ (rest : Tx) (i skip start : Nat) (cur : Tx), i + rest.length = x.length → x.drop i = rest → skip ≤ rest.length →
    (skip = 0 ∧ start ≤ i ∧ cur = (x.drop start).take (i - start) ∨ start = i + skip ∧ cur = []) → StrLaws.partsFrom (mkS x) sp.length start (occAll sp i skip rest) = (splitGo sp skip cur rest).map mkS := by
  intro rest
  induction rest with
  | nil =>
    intro i skip start cur hl hd hsk h
    simp only [List.length_nil, Nat.add_zero, Nat.le_zero_eq] at hl hsk
    subst hsk
    simp only [occAll, splitGo, StrLaws.partsFrom, List.map_cons, List.map_nil]
    rw [sub_mkS, mkS_len]
    rcases h with ⟨_, h1, rfl⟩ | ⟨h1, rfl⟩
    · rw [hl]
    · have : start = x.length := by omega
      rw [this]; simp
  | cons y t ih =>
    intro i skip start cur hl hd hsk h
    simp only [List.length_cons] at hl hsk
    have hdt : x.drop (i + 1) = t := by rw [← List.drop_drop, hd]; rfl
    cases skip with
    | zero =>
      have h' : start ≤ i ∧ cur = (x.drop start).take (i - start) := by
        rcases h with ⟨_, h1, h2⟩ | ⟨h1, h2⟩
        · exact ⟨h1, h2⟩
        · refine ⟨by omega, ?_⟩
          have : i - start = 0 := by omega
          rw [this, h2]; rfl
      simp only [occAll, splitGo]
      by_cases q : prefixB sp (y :: t) = true
      · have hq := prefixB_len q
        simp only [List.length_cons] at hq
        rw [if_pos q, if_pos q]
        simp only [StrLaws.partsFrom, List.map_cons]
        rw [sub_mkS, ← h'.2, ih (i + 1) (sp.length - 1) (i + sp.length) [] (by omega) hdt (by omega) (.inr ⟨by omega, rfl⟩)]
      · rw [if_neg q, if_neg q]
        refine ih (i + 1) 0 start (cur ++ [y]) (by omega) hdt (Nat.zero_le _) (.inl ⟨rfl, by omega, ?_⟩)
        rw [h'.2]
        have e1 : i + 1 - start = (i - start) + 1 := by omega
        have e2 : (x.drop start).drop (i - start) = y :: t := by rw [List.drop_drop, show start + (i - start) = i by omega]; exact hd
        rw [e1, List.take_add, e2]; rfl
    | succ k =>
      simp only [occAll, splitGo]
      rcases h with ⟨h0, _⟩ | ⟨h1, rfl⟩
      · cases h0
      · exact ih (i + 1) k start [] (by omega) hdt (by omega) (.inr ⟨by omega, rfl⟩)
def splitE (sp x : Tx) : List Tx := splitGo sp 0 [] x
theorem split_mkS (x sp : Tx) (hsp : 1 ≤ sp.length) (hk : Builtin.Str.strKind (mkS sp) = 1) : Txt.split (mkS x) (mkS sp) = (splitE sp x).map mkS := by
  have key : Builtin.Str.occurrences (mkS x) (mkS sp) 0 (mkS x).length ((mkS x).length + 1) = occAll sp 0 0 x := by
    rw [StrLaws.occ_eq, mkS_len]
    have := occ_all x sp hsp (x.length + 1) x 0 0 #[] (by simp) rfl (by simp)
    simpa using this
  have hp := parts_split x sp hsp x 0 0 0 [] (by simp) rfl (Nat.zero_le _) (.inr ⟨rfl, rfl⟩)
  have hone : occAll sp 0 0 x = [] → (splitE sp x).map mkS = [mkS x] := fun e => by
    unfold splitE; rw [← hp, e]
    simp only [StrLaws.partsFrom]
    rw [sub_mkS, mkS_len]; simp
  unfold Txt.split
  rw [mkS_len, mkS_len, ← mkS_len x, key, mkS_len]
  by_cases h1 : (decide (x.length < sp.length) || decide (Builtin.Str.strKind (mkS x) < Builtin.Str.strKind (mkS sp))) = true
  · rw [if_pos h1]
    have hk1 : ¬ Builtin.Str.strKind (mkS x) < Builtin.Str.strKind (mkS sp) := by
      rw [hk]; unfold Builtin.Str.strKind; split
      · omega
      · split <;> omega
    rw [decide_eq_false hk1, Bool.or_false] at h1
    have hlt := of_decide_eq_true h1
    have none_ : ∀ (rest : Tx) (i : Nat), rest.length < sp.length → occAll sp i 0 rest = [] := by
      intro rest
      induction rest with
      | nil => intro i _; rfl
      | cons y t ih =>
        intro i hl
        simp only [occAll]
        rw [if_neg (fun q => by have := prefixB_len q; omega)]
        exact ih (i + 1) (by simp only [List.length_cons] at hl; omega)
    exact (hone (none_ x 0 hlt)).symm
  · rw [if_neg h1]
    by_cases h2 : (occAll sp 0 0 x).isEmpty = true
    · rw [if_pos h2]; exact (hone (List.isEmpty_iff.mp h2)).symm
    · rw [if_neg h2, StrLaws.partsBetween_eq]; exact hp
theorem split_len (sp : Tx) : ∀ (x : Tx) (k : Nat) (cur : Tx), (splitGo sp k cur x).length ≤ x.length + 1
  | [], _, _ => by simp [splitGo]
  | y :: t, 0, cur => by
    simp only [splitGo]
    split
    · have := split_len sp t (sp.length - 1) []; simp only [List.length_cons]; omega
    · have := split_len sp t 0 (cur ++ [y]); simp only [List.length_cons]; omega
  | y :: t, k + 1, cur => by
    simp only [splitGo]
    have := split_len sp t k cur
    simp only [List.length_cons]; omega

theorem reps_nums {Z : Addr → Prop} {h : Heap} : ∀ {ts : List Tx} {l : List (Str × Tok)}, l.map (·.1) = ts.map mkS → Reps Z h (sts ts) (strValues l)
  | [], l, e => by
    cases l with
    | nil => rfl
    | cons => simp at e
  | t :: ts, l, e => by
    cases l with
    | nil => simp at e
    | cons p l =>
      simp only [List.map_cons, List.cons.injEq] at e
      refine ⟨.str p.1 p.2, strValues l, rfl, ?_, reps_nums e.2⟩
      simp only [Rep]
      exact ⟨p.2, by rw [e.1]⟩

section
variable {G : Gc} {n : Nat} {σ τ κ : Loc} {sc : Scope} {o : Out}

theorem EvN.split {ob e : Expr} {a sp : Tx} {apos pos : Pos} (h1 : Ev G n sc σ ob (.str a)) (h2 : Ev G n sc σ e (.str sp)) (hsp : 1 ≤ sp.length) (hk : Builtin.Str.strKind (mkS sp) = 1) (hl : a.length < 1000000)
    (hbase : ∀ env, attributeBase ob "split" env (eval ob env) = eval ob env)
    (hfew : ∀ env, ((backTo pos (starEach [e] env)).all (fun x => !x.1) && (backToKw pos (keywordEach [] env)).all (fun x => x.1.isSome)
      && decide ([e].length + ([] : List Keyword).length + (if ([] : List Keyword).isEmpty then 0 else 1) < 30)) = true)
    (hline : (apos.endLine == pos.line) = true) (he : ∀ env pos, backTo pos (starEach [e] env) = [(false, eval e env)]) :
    EvN G n sc σ (.Call (.Attribute ob "split" apos) [e] [] pos) (sts (splitE sp a)) := by
  refine ⟨fun F A Z W s Q E hsc ok st h => ?_⟩
  refine wpAny_Call_method_lateS (hbase _) (hfew _) hline (h1.run F A Z W s _ _ hsc ok st fun v s1 Z1 e1 z1 r1 => ?_)
  have st1 := st.ext e1 z1
  simp only [Rep] at r1
  obtain ⟨t, rfl⟩ := r1
  refine ⟨"str", "str.split", PySem.F.plainAttrs_str, PySem.F.slot_str_split, PySem.F.type_str_split, typeIs_str _ _ _, (fun _ e => nomatch e), ?_⟩
  refine Calls.callWith_builtin (by rw [he]; rfl) ?_
  rw [he]
  refine Calls.evalArgs_plain (Calls.spliced_cons (h2.run F A Z1 W s1 _ _ hsc ok st1 fun w s2 Z2 e2 z2 r2 => Calls.spliced_nil ?_))
  simp only [Rep] at r2
  obtain ⟨u, rfl⟩ := r2
  have e12 := e1.trans' e2
  have z12 := z1.trans z2 e1
  have nd := Ext0.dead e12 (none_size s2.heap)
  have hy : ((mkS sp).length == 0) = false := by rw [mkS_len]; exact beq_eq_false_iff_ne.mpr (by omega)
  have hsplit := split_mkS a sp hsp hk
  have fin : ∀ (l : List (Str × Tok)) (tk : Nat), l.map (·.1) = Txt.split (mkS a) (mkS sp) → Q (.ref s2.heap.objs.size) { s2 with toks := tk, heap := s2.heap.push { cls := .type "list", data := .seq (strValues l).toArray } } := fun l tk hl => by
    have e3 := Ext0.push s2 { cls := .type "list", data := .seq (strValues l).toArray } tk
    have z3 := ZG.same z12.lt e3
    exact h _ _ _ Z2 (e12.trans' e3) (z12.trans z3 e12) nd (not_live z12.lt (none_size _)) ⟨0, Heap.get?_push_size _ rfl⟩ (reps_nums (hl.trans hsplit))
  have hsz : (mkS a).length ≤ sizeLine := by rw [mkS_len, sizeLine_eq]; omega
  show wpAny _ A (call (.builtin "str.split") [.str (mkS a) t, .str (mkS sp) u]) Q E s2
  cases h1 : (decide ((mkS a).length < (mkS sp).length) || decide (Builtin.Str.strKind (mkS a) < Builtin.Str.strKind (mkS sp)))
  · cases hf : (Builtin.Str.occurrences (mkS a) (mkS sp) 0 (mkS a).length ((mkS a).length + 1)).isEmpty
    · have hpe : Txt.split (mkS a) (mkS sp) = Builtin.Str.partsBetween (mkS a) (Builtin.Str.occurrences (mkS a) (mkS sp) 0 (mkS a).length ((mkS a).length + 1)) (mkS sp).length := (if_neg (ne_true_of_eq_false h1)).trans (if_neg (ne_true_of_eq_false hf))
      refine call_meets PySem.F.slot_str_split (typeIs_str _ _ _) PySem.F.entry_str_split (PySem.F.args_str_split_2 _ _) (meets_str_split_sep (mkS a) (mkS sp) t u h1 hy hf hsz ?_) ?_
      · rw [← hpe, hsplit, List.length_map, sizeLine_eq]
        have := split_len sp a 0 []
        unfold splitE; omega
      · show wants Q E _ { s2 with toks := _, heap := s2.heap.push { cls := .type "list", data := .seq (PySem.strsFrom s2.toks (Builtin.Str.partsBetween (mkS a) (Builtin.Str.occurrences (mkS a) (mkS sp) 0 (mkS a).length ((mkS a).length + 1)) (mkS sp).length)).toArray } }
        rw [strsFrom_eq]
        exact fin (numbered s2.toks _) _ ((numbered_texts _ _).trans hpe.symm)
    · exact call_meets PySem.F.slot_str_split (typeIs_str _ _ _) PySem.F.entry_str_split (PySem.F.args_str_split_2 _ _) (meets_str_split_not_found (mkS a) (mkS sp) t u h1 hy hf)
        (fin [(mkS a, t)] s2.toks ((if_neg (ne_true_of_eq_false h1)).trans (if_pos hf)).symm)
  · exact call_meets PySem.F.slot_str_split (typeIs_str _ _ _) PySem.F.entry_str_split (PySem.F.args_str_split_2 _ _) (meets_str_split_cannot_occur (mkS a) (mkS sp) t u h1)
      (fin [(mkS a, t)] s2.toks (if_pos h1).symm)

/-! join -/
def joinT (sep : Tx) : List Tx → Tx
  | [] => []
  | a :: r => r.foldl (fun acc p => acc ++ sep ++ p) a
theorem foldl_mkS (sep : Tx) : ∀ (r : List Tx) (a : Tx), (r.map mkS).foldl (fun (acc : Array Nat) (p : Str) => acc ++ (mkS sep).cps ++ p.cps) a.toArray = (r.foldl (fun acc p => acc ++ sep ++ p) a).toArray
  | [], a => rfl
  | b :: r, a => by
    rw [List.map_cons, List.foldl_cons, List.foldl_cons, ← foldl_mkS sep r]
    congr 1
    simp [mkS]
theorem join_mkS (sep : Tx) (l : List Tx) : Txt.join (mkS sep) (l.map mkS) = mkS (joinT sep l) := by
  unfold Txt.join Builtin.Str.glued
  cases l with
  | nil => rfl
  | cons a r =>
    apply Str.ext'
    exact foldl_mkS sep r a
theorem strs_of_reps {Z : Addr → Prop} {h : Heap} : ∀ {ts : List Tx} {vs : List Value}, Reps Z h (sts ts) vs → ∃ l : List (Str × Tok), vs = strValues l ∧ l.map (·.1) = ts.map mkS
  | [], vs, r => ⟨[], by simpa [Reps, sts, strValues] using r, rfl⟩
  | t :: ts, vs, r => by
    obtain ⟨v, ws, rfl, r1, r2⟩ := r
    simp only [Rep] at r1
    obtain ⟨u, rfl⟩ := r1
    obtain ⟨l, rfl, hl⟩ := strs_of_reps r2
    exact ⟨(mkS t, u) :: l, rfl, by simp [hl]⟩
def joinW (sep : Tx) (l : List Tx) : Nat := (l.map fun t => t.length + sep.length).sum
theorem foldl_w (k : Nat) : ∀ (l : List Str) (a : Nat), l.foldl (fun x1 (x2 : Str) => x1 + x2.length + k) a = a + (l.map fun t => t.length + k).sum
  | [], a => by simp
  | b :: l, a => by rw [List.foldl_cons, foldl_w k l, List.map_cons, List.sum_cons]; omega
theorem CallV.join {sep : Tx} {l : List Tx} (hw : joinW sep l ≤ 1000000) : CallV G n (.builtin "str.join") [.str sep, .list (sts l)] (.str (joinT sep l)) := by
  intro A Z s vs Q E ok bs zl r h
  simp only [Reps, Rep] at r
  obtain ⟨v, ws, rfl, ⟨t, rfl⟩, w, us, rfl, ⟨a, xs, rfl, za, hL, rs⟩, rfl⟩ := r
  obtain ⟨ll, rfl, hll⟩ := strs_of_reps rs
  refine SC.join hL hll ?_ fun t' k => ?_
  · unfold JoinOk Builtin.Str.tooLong
    rw [Bool.not_eq_true']
    refine decide_eq_false ?_
    rw [sizeLine_eq, ← Array.foldl_toList, foldl_w]
    have : ((l.map mkS).map fun t => t.length + (mkS sep).length).sum = joinW sep l := by
      unfold joinW
      rw [List.map_map]
      congr 1
    have e : (List.map mkS l).toArray.toList = List.map mkS l := rfl
    rw [e]
    omega
  · rw [join_mkS]
    exact finT h zl (by simp [Rep])

/-! lists -/
theorem BinV.addL {xs ys : List PV} (hl : xs.length + ys.length ≤ 1000000) : BinV G n .Add (.list xs) (.list ys) (.list (xs ++ ys)) := by
  intro A Z s v w Q E ok zl ra rb h
  simp only [Rep] at ra rb
  obtain ⟨a, vs, rfl, za, hL, rs⟩ := ra
  obtain ⟨b, ws, rfl, zb, hM, rt⟩ := rb
  obtain ⟨⟨cls, dd, data, sl⟩, ho, hc, m, hd⟩ := id hL
  obtain ⟨⟨cls2, dd2, data2, sl2⟩, ho2, hc2, n2, hd2⟩ := id hM
  simp only at hc hd hc2 hd2
  subst hc hd hc2 hd2
  have e : vs.toArray ++ ws.toArray = (vs ++ ws).toArray := by simp
  refine concat_meets ⟨_, ho, rfl⟩ ⟨_, ho2, rfl⟩ noFill_list_add seq_list_add PySem.F.slot_list_add PySem.F.entry_list_add (PySem.F.args_list_add_2 _ _) (list_addW a b vs.toArray ws.toArray m n2 dd dd2 sl sl2 (by
    have := rs.length; have := rt.length
    simp only [List.size_toArray, sizeLine_eq]; omega)) ⟨ho, ho2, ?_⟩
  rw [e]
  exact finL (tk := s.toks) h zl (fun b o e => Heap.get?_push_of_some _ e) (Heap.get?_push_size _ rfl) ((rs.append rt).mono (fun _ z => z) fun b o _ e => Heap.get?_push_of_some _ e)

def repL {α : Type} (xs : List α) : Nat → List α
  | 0 => []
  | k + 1 => xs ++ repL xs k
theorem foldl_rep (vs : List Value) : ∀ (k : Nat) (acc : List Value), List.foldl (fun (x1 x2 : Array Value) => x1 ++ x2) acc.toArray (List.replicate k vs.toArray) = (acc ++ repL vs k).toArray
  | 0, acc => by simp [repL]
  | k + 1, acc => by
    rw [List.replicate_succ, List.foldl_cons]
    have : acc.toArray ++ vs.toArray = (acc ++ vs).toArray := by simp
    rw [this, foldl_rep vs k]
    simp [repL]
theorem Reps.rep {Z : Addr → Prop} {h : Heap} {xs : List PV} {vs : List Value} (r : Reps Z h xs vs) : ∀ k, Reps Z h (repL xs k) (repL vs k)
  | 0 => rfl
  | k + 1 => r.append (Reps.rep r k)
theorem fits_k {k : Nat} (hk : k ≤ 1000000) : ¬ (!Builtin.List.listFitsIndex (k : Int)) = true := by
  unfold Builtin.List.listFitsIndex
  simp
  omega
/-- [..] * k -/
theorem Ev.mulN {l r : Expr} {xs : List PV} {k : Nat} {pos} (h1 : EvN G n sc σ l xs) (h2 : Ev G n sc σ r (.int k)) (hne : xs ≠ []) (hs : xs.length * k ≤ 1000000) (hk : k ≤ 1000000) : Ev G n sc σ (.BinOp l .Mult r pos) (.list (repL xs k)) := by
  refine ⟨fun F A Z W s Q E hsc ok st h => ?_⟩
  refine wpAny_BinOp (h1.run F A Z W s _ _ hsc ok st fun a vs s1 Z1 e1 z1 na za hp r1 => ?_)
  have st1 := st.ext e1 z1
  refine h2.run F A Z1 W s1 _ _ hsc ok st1 fun w s2 Z2 e2 z2 r2 => ?_
  simp only [Rep] at r2
  obtain ⟨u, rfl⟩ := r2
  obtain ⟨c, hp⟩ := hp
  have hp2 := e2.keep' _ _ hp
  have rr := r1.ext e2 z2
  have e12 := e1.trans' e2
  have z12 := z1.trans z2 e1
  have hvne : vs.toArray.isEmpty = false := by
    cases vs with
    | nil => have := r1.length; cases xs with
      | nil => exact absurd rfl hne
      | cons => simp at this
    | cons => rfl
  have hlen := r1.length
  obtain ⟨x, hx⟩ : ∃ x : Int, x = (k : Int) := ⟨_, rfl⟩
  rw [← hx]
  have hxk : x.toNat = k := by rw [hx, Int.toNat_natCast]
  have fin : Q (.ref s2.heap.objs.size) { s2 with heap := s2.heap.push { cls := .type "list", data := .seq (List.foldl (fun x1 x2 => x1 ++ x2) #[] (List.replicate (if vs.toArray.isEmpty = true then 0 else x.toNat) vs.toArray)) } } := by
    rw [if_neg (by rw [hvne]; exact Bool.false_ne_true), show (#[] : Array Value) = ([] : List Value).toArray from rfl, foldl_rep, List.nil_append, hxk]
    exact finL (tk := s2.toks) (fun r s' Z' e' z' r' => h r s' Z' (e12.trans' e') (z12.trans z' e12) r') z12.lt (fun b o e => Heap.get?_push_of_some _ e) (Heap.get?_push_size _ rfl) ((rr.rep k).mono (fun _ z => z) fun b o _ e => Heap.get?_push_of_some _ e)
  have c0 := hx ▸ fits_k hk
  have c1 : ¬ vs.toArray.size * x.toNat > (2 ^ 63 - 1) / 8 := by rw [List.size_toArray, hlen, hxk]; omega
  have c2 : ¬ Builtin.List.listTooLong (vs.toArray.size * x.toNat) = true := by unfold Builtin.List.listTooLong; rw [decide_eq_true_eq, sizeLine_eq, List.size_toArray, hlen, hxk]; omega
  exact wpAny_binaryOp_repeat_ref (T := "list") (U := "int") (by decide) ⟨_, hp2, rfl⟩ (fun s' => typeIs_int s' x u) noFill_list_mul PySem.F.fills_int_mul PySem.F.slot_int_rmul repeat_list PySem.F.slot_int_index.lookup
    (call_meets PySem.F.slot_int_rmul (typeIs_int s2 x u) PySem.F.entry_int_rmul (PySem.F.args_int_rmul_2 _ _) (int___rmul___int_list x u a vs.toArray c)
      ⟨hp2, rfl, ⟨_, hp2, rfl⟩, call_meets PySem.F.slot_list_mul ⟨_, hp2, rfl⟩ PySem.F.entry_list_mul (PySem.F.args_list_mul_2 _ _)
        (AutoListH.list___mul___list_int_3 a vs.toArray c x u c0 c1 c2) ⟨hp2, fin⟩⟩)
end
end Mine
namespace Mine

theorem wrap_id {α : Type} (m : Sem α) : m.wrap Sem.pure Sem.raise id id = m := by
  have := Sem.bind_eq_wrap' m (fun a => Sem.pure a)
  rw [← this]
  exact bind_pure m

section
variable {α β : Type} {M : Model} {A : Around} {R : GenEnd} {Y : Protocol} {c : Code} {fs : List Frame} {n : Nat} {s₀ s : Shared}

/-- a piece of a generator's work -/
def GW (M : Model) (A : Around) (R : GenEnd) (Y : Protocol) (c : Code) (fs : List Frame) (m : Sem α) (P : Nat → Shared → α → Shared → Prop) (n : Nat) (s₀ s : Shared) : Prop :=
  ∀ (K : α → Sem Fin) (H : Value → Sem Fin) (gd : Bool → Bool) (lv : List Value → List Value), gd false = false → (∀ n' s₀' a s', P n' s₀' a s' → Seg M A R Y n' s₀' c (K a) fs s') → Seg M A R Y n s₀ c (m.wrap K H gd lv) fs s

theorem GW.wp {m : Sem α} {P : Nat → Shared → α → Shared → Prop} (h : wpAny M (A.over c fs) m (fun a s' => P n s₀ a s') (fun _ _ => False) s) : GW M A R Y c fs m P n s₀ s :=
  fun K H gd lv _ k => seg_wrap (wpAny_mono h (fun a s' q => k _ _ _ _ q) fun _ _ f => f.elim)
theorem GW.pure {a : α} {P : Nat → Shared → α → Shared → Prop} (h : P n s₀ a s) : GW M A R Y c fs (pure a) P n s₀ s := fun K H gd lv _ k => k _ _ _ _ h
theorem GW.bind {m : Sem α} {f : α → Sem β} {P : Nat → Shared → β → Shared → Prop} (h : GW M A R Y c fs m (fun n s₀ a s => GW M A R Y c fs (f a) P n s₀ s) n s₀ s) : GW M A R Y c fs (m >>= f) P n s₀ s := by
  intro K H gd lv hg k
  rw [Sem.bind_eq_wrap', Sem.wrap_wrap]
  exact h _ _ _ _ hg fun n' s₀' a s' q => q K H gd lv hg k
theorem GW.bindW {m : Sem α} {f : α → Sem β} {P : Nat → Shared → β → Shared → Prop} (h : wpAny M (A.over c fs) m (fun a s' => GW M A R Y c fs (f a) P n s₀ s') (fun _ _ => False) s) : GW M A R Y c fs (m >>= f) P n s₀ s := GW.bind (GW.wp h)
theorem GW.mono {m : Sem α} {P P' : Nat → Shared → α → Shared → Prop} (h : GW M A R Y c fs m P n s₀ s) (hp : ∀ n s₀ a s, P n s₀ a s → P' n s₀ a s) : GW M A R Y c fs m P' n s₀ s :=
  fun K H gd lv hg k => h K H gd lv hg fun n' s₀' a s' q => k _ _ _ _ (hp _ _ _ _ q)
theorem GW.onRaise {m : Sem α} {g : Value → Sem Unit} {P : Nat → Shared → α → Shared → Prop} (h : GW M A R Y c fs m P n s₀ s) : GW M A R Y c fs (m.onRaise g) P n s₀ s := by
  intro K H gd lv hg k
  rw [Sem.onRaise_eq_wrap, Sem.wrap_wrap]
  exact h _ _ _ _ hg k
theorem GW.yield {v : Value} {P : Nat → Shared → Value → Shared → Prop} (hfs : splitAtGen fs = none) (hfg : fs.any Frame.guarded = false)
    (h : ∀ kap : Resume → Shared → Prop, (∀ s'', P n s'' .none s'' → kap (.send .none) s'') → Y n s₀ v s kap) : GW M A R Y c fs (yieldValue v) P (n + 1) s₀ s := by
  intro K H gd lv hg k
  show Seg M A R Y (n + 1) s₀ c (.yield v (gd false) (lv []) _) fs s
  exact seg_yield hfs hg hfg (h _ fun s'' q => k _ _ _ _ q)

/-- a loop's own run, below c -/
def GC (M : Model) (A : Around) (R : GenEnd) (Y : Protocol) (c' : Code) (c : Code) (fs : List Frame) (P : Nat → Shared → Flow → Shared → Prop) (n : Nat) (s₀ s : Shared) : Prop :=
  ∀ (k : Result → Sem Fin) g l p kp, g = false → (∀ n' s₀' f s', P n' s₀' f s' → Seg M A R Y n' s₀' c (k (.ok f)) fs s') → Seg M A R Y n s₀ c' (M.den c') (.ret k none g l c p kp :: fs) s
def GFin (M : Model) (A : Around) (R : GenEnd) (Y : Protocol) (c : Code) (fs : List Frame) (P : Nat → Shared → Flow → Shared → Prop) (n : Nat) (s₀ : Shared) (x : Fin) (s : Shared) : Prop := match x with
  | .again c'' => c''.quiet = true ∧ GC M A R Y c'' c fs P n s₀ s
  | .done f => P n s₀ f s
theorem GW.run {c' : Code} {P : Nat → Shared → Flow → Shared → Prop} (h : GC M A R Y c' c fs P n s₀ s) : GW M A R Y c fs (run c' none) P n s₀ s := by
  intro K H gd lv hg k
  exact seg_call fun p => h _ _ _ p [] hg fun n' s₀' f s' q => k _ _ _ _ q
/-- a frame that waits for a loop -/
inductive Waits (c : Code) : Frame → Prop
  | ret {k l p kp} : Waits c (.ret k none false l c p kp)
theorem Waits.split {c : Code} {fr : Frame} (w : Waits c fr) {fs : List Frame} (h : splitAtGen fs = none) : splitAtGen (fr :: fs) = none := by
  cases w; simp [splitAtGen, h]
theorem Waits.guard {c : Code} {fr : Frame} (w : Waits c fr) {fs : List Frame} (h : fs.any Frame.guarded = false) : (fr :: fs).any Frame.guarded = false := by
  cases w; simp only [List.any_cons, Frame.guarded, h]; rfl
theorem GC.of {c' : Code} {m : Sem Fin} {P : Nat → Shared → Flow → Shared → Prop} (hd : M.den c' = m) (h : ∀ fr, Waits c fr → GW M A R Y c' (fr :: fs) m (GFin M A R Y c fs P) n s₀ s) : GC M A R Y c' c fs P n s₀ s := by
  intro k g l p kp hg kk
  subst hg
  rw [hd]
  have := h (.ret k none false l c p kp) .ret Sem.pure Sem.raise id id rfl fun n' s₀' x s' q => ?_
  · rw [wrap_id] at this; exact this
  · cases x with
    | again c'' => exact seg_again q.1 (q.2 k false l p kp rfl kk)
    | done f => exact seg_leaf (.ok f) (kk _ _ _ _ q)

/-! statements -/
variable {env : Env}
theorem GW.nil {P : Nat → Shared → Flow → Shared → Prop} (h : P n s₀ .next s) : GW M A R Y c fs (execs [] env) P n s₀ s := GW.pure (a := Flow.next) h
theorem GW.cons {st : Stmt} {ss : List Stmt} {P : Nat → Shared → Flow → Shared → Prop} (h : GW M A R Y c fs (exec st env) (fun n s₀ f s => match f with | .next => GW M A R Y c fs (execs ss env) P n s₀ s | f => P n s₀ f s) n s₀ s) :
    GW M A R Y c fs (execs (st :: ss) env) P n s₀ s := by
  rw [execs_cons]
  refine GW.bind (h.mono fun n s₀ f s q => ?_)
  cases f with
  | next => exact q
  | _ => exact GW.pure q
theorem GW.if_ {t : Expr} {a b : List Stmt} {pos : Pos} {P : Nat → Shared → Flow → Shared → Prop}
    (h : wpAny M (A.over c fs) (isTrue t env (eval t env)) (fun x s' => if x = true then GW M A R Y c fs (execs a env) P n s₀ s' else GW M A R Y c fs (execs b env) P n s₀ s') (fun _ _ => False) s) :
    GW M A R Y c fs (exec (.If t a b pos) env) P n s₀ s := by
  rw [exec_If]
  refine GW.bindW (wpAny_standAt (GW.bindW (wpAny_mono h (fun x s' q => ?_) fun _ _ f => f)))
  cases x with
  | true => exact q
  | false => exact q
theorem GW.exprYield {e : Expr} {yp pos : Pos} {P : Nat → Shared → Flow → Shared → Prop} (hfs : splitAtGen fs = none) (hfg : fs.any Frame.guarded = false) (hi : interactive env = false) (hco : env.scope.isCoroutine = false)
    (h : wpAny M (A.over c fs) (eval e env) (fun v s' => ∀ kap : Resume → Shared → Prop, (∀ s'', P n s'' .next s'' → kap (.send .none) s'') → Y n s₀ v s' kap) (fun _ _ => False) s) :
    GW M A R Y c fs (exec (.Expr (.Yield (some e) yp) pos) env) P (n + 1) s₀ s := by
  rw [exec_Expr env _ pos hi rfl, arm_eval_Yield]
  refine GW.bindW (wpAny_standAt (GW.bind ?_))
  show GW M A R Y c fs (eval e env >>= fun v => standAt yp >>= fun _ => yieldOut env v) _ (n + 1) s₀ s
  refine GW.bindW (wpAny_mono h (fun v s' q => ?_) fun _ _ f => f)
  refine GW.bindW (wpAny_standAt ?_)
  have hy : yieldOut env v = yieldValue v := by simp only [yieldOut, hco, Bool.false_eq_true, if_false]
  rw [hy]
  exact GW.yield hfs hfg fun kap hk => q kap fun s'' p => hk s'' (GW.pure (a := Flow.next) p)
theorem GW.runOwn {c' : Code} {P : Nat → Shared → Flow → Shared → Prop} (h : GC M A R Y c' c fs P n s₀ s) : GW M A R Y c fs (PySem.runOwn c' env) P n s₀ s := (GW.run h).onRaise
theorem GW.for_ {t it : Expr} {body orelse : List Stmt} {pos : Pos} {P : Nat → Shared → Flow → Shared → Prop} (hs : ∀ x, foldedSetIterable it env x = Pure.pure x)
    (h : wpAny M (A.over c fs) (eval it env) (fun x s1 => wpAny M (A.over c fs) (pyIter x) (fun i s2 => GC M A R Y (.forLoop t i body orelse env) c fs P n s₀ s2) (fun _ _ => False) s1) (fun _ _ => False) s) :
    GW M A R Y c fs (exec (.For t it body orelse pos) env) P n s₀ s := by
  rw [exec_For]
  refine GW.bindW (wpAny_standAt (GW.bindW (wpAny_mono h (fun x s1 q => ?_) fun _ _ f => f)))
  rw [hs]
  refine GW.bindW (wpAny_pure (GW.bindW (wpAny_standAt (GW.bindW (wpAny_holding (wpAny_mono q (fun i s2 r => ?_) fun _ _ f => f))))))
  exact GW.runOwn r
theorem GW.while_ {t : Expr} {body orelse : List Stmt} {pos : Pos} {P : Nat → Shared → Flow → Shared → Prop} (h : GC M A R Y (.whileLoop t body orelse env) c fs P n s₀ s) : GW M A R Y c fs (exec (.While t body orelse pos) env) P n s₀ s := by
  rw [exec_While]
  exact GW.bindW (wpAny_standAt (GW.runOwn h))
end

section
variable {prog : Program} {w : World} {A : Around} {R : GenEnd} {Y : Protocol} {c : Code} {fs : List Frame} {n : Nat} {s₀ s : Shared} {env : Env}
theorem GC.for_ {t : Expr} {it : Value} {body orelse : List Stmt} {P : Nat → Shared → Flow → Shared → Prop}
    (h : ∀ fr, Waits c fr → wpAny (model prog w) (A.over (.forLoop t it body orelse env) (fr :: fs)) (pyNext it) (fun r s1 => match r with
      | none => GC (model prog w) A R Y (.block orelse env) c fs P n s₀ s1
      | some v => wpAny (model prog w) (A.over (.forLoop t it body orelse env) (fr :: fs)) (letOwnedTupleGo t it v) (fun _ s2 => wpAny (model prog w) (A.over (.forLoop t it body orelse env) (fr :: fs)) (assign t env v) (fun _ s3 =>
          GW (model prog w) A R Y (.forLoop t it body orelse env) (fr :: fs) (execs body env) (fun n s₀ f s => match f with
            | .next | .cont => GC (model prog w) A R Y (.forLoop t it body orelse env) c fs P n s₀ s
            | .brk => P n s₀ .next s
            | .ret v => P n s₀ (.ret v) s) n s₀ s3) (fun _ _ => False) s2) (fun _ _ => False) s1) (fun _ _ => False) s) :
    GC (model prog w) A R Y (.forLoop t it body orelse env) c fs P n s₀ s := by
  refine GC.of (m := (forTurn t it body orelse env).onRaise (fun x => do noteFrame x env; theTreesLotGoes x)) rfl fun fr hw => GW.onRaise ?_
  simp only [forTurn]
  refine GW.bindW (wpAny_standAt (GW.bindW (wpAny_onRaise (wpAny_mono (h fr hw) (fun r s1 q => ?_) fun _ _ f => f.elim))))
  cases r with
  | none => exact GW.pure (a := Fin.again _) ⟨rfl, q⟩
  | some v =>
    refine GW.bindW (wpAny_mono q (fun _ s2 q => GW.bindW (wpAny_mono q (fun _ s3 q => GW.bind (q.mono fun n s₀ f s p => ?_)) fun _ _ f => f)) fun _ _ f => f)
    cases f with
    | next => exact GW.pure (a := Fin.again _) ⟨rfl, p⟩
    | cont => exact GW.pure (a := Fin.again _) ⟨rfl, p⟩
    | brk => exact GW.pure (a := Fin.done _) p
    | ret v => exact GW.pure (a := Fin.done _) p
theorem GC.block {ss : List Stmt} {P : Nat → Shared → Flow → Shared → Prop} (h : ∀ fr, Waits c fr → GW (model prog w) A R Y (.block ss env) (fr :: fs) (execs ss env) P n s₀ s) : GC (model prog w) A R Y (.block ss env) c fs P n s₀ s := by
  refine GC.of (m := (do return .done (← (execs ss env).onRaise (fun x => do noteFrame x env; theTreesLotGoes x)))) rfl fun fr hw => GW.bind ((h fr hw).onRaise.mono fun n s₀ f s q => ?_)
  exact GW.pure (a := Fin.done _) q
theorem GC.while_ {t : Expr} {body orelse : List Stmt} {P : Nat → Shared → Flow → Shared → Prop}
    (h : ∀ fr, Waits c fr → wpAny (model prog w) (A.over (.whileLoop t body orelse env) (fr :: fs)) (isTrue t env (eval t env)) (fun b s1 => b = true ∧
          GW (model prog w) A R Y (.whileLoop t body orelse env) (fr :: fs) (execs body env) (fun n s₀ f s => match f with
            | .next | .cont => GC (model prog w) A R Y (.whileLoop t body orelse env) c fs P n s₀ s
            | .brk => P n s₀ .next s
            | .ret v => P n s₀ (.ret v) s) n s₀ s1) (fun _ _ => False) s) :
    GC (model prog w) A R Y (.whileLoop t body orelse env) c fs P n s₀ s := by
  refine GC.of (m := (whileTurn t body orelse env).onRaise (fun x => do noteFrame x env; theTreesLotGoes x)) rfl fun fr hw => GW.onRaise ?_
  simp only [whileTurn]
  refine GW.bindW (wpAny_mono (h fr hw) (fun b s1 q => ?_) fun _ _ f => f)
  obtain ⟨rfl, q⟩ := q
  rw [if_pos rfl]
  refine GW.bind (q.mono fun n s₀ f s p => ?_)
  cases f with
  | next => exact GW.pure (a := Fin.again _) ⟨rfl, p⟩
  | cont => exact GW.pure (a := Fin.again _) ⟨rfl, p⟩
  | brk => exact GW.pure (a := Fin.done _) p
  | ret v => exact GW.pure (a := Fin.done _) p
/-- a generator that begins -/
theorem seg_begin {body : List Stmt} (h : GW (model prog w) A R Y (.func body env) [] (execs body env) (fun n s₀ f s => (∀ v, f = .ret v → v = .none) ∧ R n s₀ (.ok (.ret .none)) s) n s₀ s) :
    Seg (model prog w) A R Y n s₀ (.func body env) ((model prog w).den (.func body env)) [] s := by
  refine seg_func (h _ _ _ _ rfl fun n' s₀' f s' q => ?_)
  cases f with
  | ret v => rw [q.1 v rfl]; exact seg_end (.ok (.ret .none)) q.2
  | _ => exact seg_end (.ok (.ret .none)) q.2
end

/-! the widest ground -/
def Amax (n : Nat) : Around := { handled := none, depth := 999 - n, frames := none, guards := none, units := 9799 - 8 * n }
theorem Amax.ok {n : Nat} (h : n ≤ 999) (h2 : n ≤ 1000) : OkA n (Amax n) := by
  refine ⟨rfl, ?_, ?_⟩
  · show 999 - n + n < 1000; omega
  · show 9799 - 8 * n + 8 * n + 100 < 9900; omega
theorem In_max {n : Nat} {A : Around} (ok : OkA n A) {Γ : Ctx} (h : Γ.In A) : Γ.In (Amax n) := by
  obtain ⟨h1, h2, h3, h4, h5⟩ := h
  obtain ⟨o1, o2, o3⟩ := ok
  refine And.intro (h1.trans o1) (And.intro ?_ (And.intro ?_ (And.intro ?_ ?_)))
  · show frameCount Γ.below + Γ.code.weight ≤ 999 - n; omega
  · intro l e
    have e : (none : Option (List Env)) = some l := e
    cases e
  · intro l e
    have e : (none : Option (List Code)) = some l := e
    cases e
  · show Γ.units ≤ 9799 - 8 * n; omega
theorem wpAny_max {α : Type} {M : Model} {n : Nat} {A : Around} (ok : OkA n A) {m : Sem α} {Q : α → Shared → Prop} {E : Value → Shared → Prop} {s : Shared} (h : wpAny M (Amax n) m Q E s) : wpAny M A m Q E s :=
  fun Γ p hΓ => h Γ p (In_max ok hΓ)
end Mine
namespace Mine

section
variable {prog : Program} {w : World} {A : Around} {E : Value → Shared → Prop} {s : Shared}
/-- a generator of a def is asked for its next; its state stays bare -/
theorem pyNext_defgen {a : Addr} {g n : Nat} {gs : GenState} {P : Nat → Shared → Shared → Prop} {Y : Protocol} {Q : Option Value → Shared → Prop} (hh : A.handled = none)
    (hl : s.heap.NoLimit) (hroom : A.depth < recursionLimit) (hg : s.heap.IsGen a g) (hgs : s.gens[g]? = some gs)
    (hgo : gs.Goes (model prog w) A.in1 (fun n s₀ r s₁ => r = .ok (.ret .none) ∧ P n s₀ s₁) Y n (.send .none) (s.setGen g .running))
    (hY : ∀ v s₁ gs', gs'.bare = true → Y (n - 1) (s.setGen g .running) v s₁ (fun r' s'' => match n with
        | 0 => False
        | m + 1 => gs'.Goes (model prog w) A.in1 (fun n s₀ r s₁ => r = .ok (.ret .none) ∧ P n s₀ s₁) Y m r' s'') → Q (some v) (s₁.setGen g gs'))
    (hP : ∀ s₁, P n (s.setGen g .running) s₁ → ∀ h', (∀ b o, s₁.heap.get? b = some o → h'.get? b = some o) → Q none { s₁.setGen g .finished with heap := h' }) :
    wpAny (model prog w) A (pyNext (.ref a)) Q E s := by
  unfold pyNext
  refine wpAny_bind (wpAny_attempt (wpAny_callSpecial?_slot (name := Str.ofString "__next__") hg.typeIs slot_gen_next
    (wpAny_call_entry slot_gen_next hg.typeIs entry_gen_next ?_ (args_gen_next _))))
  show wpAny _ A.in1 (Builtin.Generator.genWake (.ref a) (.send .none)) _ _ s
  unfold Builtin.Generator.genWake
  refine wpAny_bind (wpAny_holding (wpAny_genNumber hg (wpAny_bind (wpAny_genState hgs ?_))))
  cases gs with
  | running => exact hgo.elim
  | finished => exact hgo.elim
  | _ =>
    refine wpAny_bind (wpAny_roomToWake hl hroom ?_)
    show wpAny _ A.in1 (.resume g (.send .none) [] _) _ _ s
    refine wpAny_resumeQ hgs hgo (fun x s₁ hx => ?_) (fun v s₁ gs' hb hv => ?_)
    · obtain ⟨rfl, hp⟩ := hx
      show wpAny _ A.in1 (newExc (.type "StopIteration") [] >>= _) _ _ _
      refine wpAny_bind ?_
      simp only [newExc, newTuple]
      refine wpAny_bind (wpAny_newObj_type ?_ (by size_fits))
      refine wpAny_bind (m := firstArgMember _ _) (wpAny_of_eq (a := Value.none) (by first | rfl | (simp only [firstArgMember]; rfl)) ?_)
      refine wpAny_newObj_type ?_ (by size_fits)
      simp only [raiseNew]
      refine wpAny_bind (wpAny_bind (wpAny_handled ?_))
      first | rw [show A.in1.handled = none from hh] | rw [hh]
      refine wpAny_throw ?_
      refine wpAny_bind (wpAny_isInstance (T := "StopIteration") (b := true) ⟨_, Heap.get?_push_size _ rfl, rfl⟩ isSubtype_stop ?_)
      exact wpAny_pure (hP s₁ hp _ fun b o hb => Heap.get?_push_of_some _ (Heap.get?_push_of_some _ hb))
    · exact wpAny_pure ⟨v, rfl, wpAny_pure (hY v s₁ gs' hb hv)⟩
end

theorem ExtG.setGen (s : Shared) (g : Nat) (x : GenState) (hb : x.bare = true) : ExtG no (fun k => k = g) s (s.setGen g x) where
  keep := fun _ _ _ e => e
  gsize := by simp [Shared.setGen]
  gens := fun k y hk e => by
    show (s.gens.setIfInBounds g x)[k]? = _
    rw [Array.getElem?_setIfInBounds_ne (Ne.symm hk)]; exact e
  os := rfl
  bare := fun h y hy => by
    have hy : y ∈ s.gens.setIfInBounds g x := hy
    rcases Array.mem_or_eq_of_mem_setIfInBounds hy with h' | rfl
    · exact h y h'
    · exact hb
theorem setGen_get {s : Shared} {g : Nat} {x : GenState} (h : g < s.gens.size) : (s.setGen g x).gens[g]? = some x := by
  simp [Shared.setGen, h]

def YP (G : Gc) (ends : Bool) (xs : List PV) (ZI wr : Addr → Prop) : Protocol := fun m s₀ v s kap =>
  ExtG wr no s₀ s ∧ (∃ x Z', xs[xs.length - 1 - m]? = some x ∧ Rep Z' s.heap x v ∧ (∀ b, Z' b → ZI b ∨ s₀.heap.get? b = none) ∧ Liv Z' s.heap ∧ (∀ b, Z' b → ¬ wr b)) ∧ Liv wr s.heap ∧
  (ends = true ∨ m ≠ 0 → ∀ s'', (∀ b o, ZI b ∨ wr b → s.heap.get? b = some o → s''.heap.get? b = some o) → Bs G s'' → kap (.send .none) s'')
def RP (wr : Addr → Prop) : GenEnd := fun n s₀ r s => r = .ok (.ret .none) ∧ (n = 0 ∧ ExtG wr no s₀ s)

section
variable {G : Gc} {n g : Nat} {I : Addr} {ends : Bool} {xs : List PV} {ZI wr : Addr → Prop}

theorem Bs.keeps {s s' : Shared} {H : Nat → Prop} (b : Bs G s) (e : ExtG wr H s s') (h : ∀ b, wr b → G.base.get? b = none) : Bs G s' :=
  ⟨fun a o q => e.keep a o (fun w => by rw [h a w] at q; cases q) (b.base a o q), e.bare b.bare⟩

/-- one step of a generator -/
theorem gen_next {k : Nat} {gs : GenState} {s' : Shared} {Q : Option Value → Shared → Prop} {E : Value → Shared → Prop} (hn : n ≤ 999) (hI : s'.heap.IsGen I g) (hgs : s'.gens[g]? = some gs) (bs : Bs G s') (hb : ∀ b, wr b → G.base.get? b = none)
    (hgo : gs.Goes (model G.prog G.w) (Amax n).in1 (RP wr) (YP G ends xs ZI wr) k (.send .none) (s'.setGen g .running)) (hne : ends = true ∨ k ≠ 0)
    (hsome : ∀ v s₁ gs' m, k = m + 1 → gs'.bare = true → YP G ends xs ZI wr m (s'.setGen g .running) v s₁ (fun r s'' => gs'.Goes (model G.prog G.w) (Amax n).in1 (RP wr) (YP G ends xs ZI wr) m r s'') → Q (some v) (s₁.setGen g gs'))
    (hnone : k = 0 → ∀ s'', ExtG wr (fun x => x = g) s' s'' → Q none s'') : wpAny (model G.prog G.w) (Amax n) (pyNext (.ref I)) Q E s' := by
  have e0 := ExtG.setGen s' g .running rfl
  refine pyNext_defgen (P := fun n s₀ s => n = 0 ∧ ExtG wr no s₀ s) (Y := YP G ends xs ZI wr) (n := k) rfl (G.top.nolimit.keeps bs.base) (by show 999 - n < 1000; omega) hI hgs hgo (fun v s₁ gs' hbr hy => ?_) (fun s₁ hp h' hk => ?_)
  · cases k with
    | zero =>
      have he : ends = true := hne.elim id fun h => absurd rfl h
      obtain ⟨q1, q2, q3, q4⟩ := hy
      have b0 : Bs G (s'.setGen g .running) := ⟨bs.base, e0.bare bs.bare⟩
      exact (q4 (.inl he) s₁ (fun _ _ _ e => e) (b0.keeps q1 hb)).elim
    | succ m => exact hsome v s₁ gs' m rfl hbr hy
  · obtain ⟨h0, e1⟩ := hp
    refine hnone h0 _ ?_
    have e01 : ExtG wr (fun x => x = g) s' s₁ := (e0.wide (fun _ h => h.elim) (fun _ h => .inl h)).trans e1 (fun b w => .inl w) (fun _ h => h.elim)
    have e2 := ExtG.setGen s₁ g .finished rfl
    have e3 : ExtG no no (s₁.setGen g .finished) { s₁.setGen g .finished with heap := h' } := Ext0.heap (tk := s₁.toks) hk
    exact (e01.trans e2 (fun _ h => h.elim) (fun _ h => .inl h)).trans e3 (fun _ h => h.elim) (fun _ h => h.elim)

structure GFix (G : Gc) (n : Nat) (I : Addr) (g : Nat) (ZI wr Z : Addr → Prop) (s : Shared) : Prop where
  notI : ¬ wr I
  live : Liv wr s.heap
  apart : ∀ b, Z b → ¬ wr b
  apartI : ¬ Z I
  zi : ∀ b, ZI b → Z b
  glt : g < s.gens.size
  dead : ∀ b, wr b → G.base.get? b = none
  deadI : G.base.get? I = none
  isg : s.heap.IsGen I g
theorem GFix.its {Z : Addr → Prop} {s : Shared} (x : GFix G n I g ZI wr Z s) : ItS G n I Z (fun b => wr b ∨ b = I) (fun k => k = g) s where
  mem := .inr rfl
  live := fun b w => w.elim (x.live b) fun e => let ⟨o, _, _, q, _⟩ := x.isg; ⟨o, e ▸ q⟩
  apart := fun b z w => w.elim (x.apart b z) fun e => x.apartI (e ▸ z)
  glt := fun k h => h ▸ x.glt
  plain := let ⟨o, _, _, e, c, _⟩ := x.isg; ⟨o, "generator", e, c, by decide⟩
  self := fun s' k A Q E ok h => by
    obtain ⟨o, nm, qn, e, r⟩ := x.isg
    exact wpAny_pyIter_gen ⟨o, nm, qn, k.keep I o (.inr (.inr rfl)) e, r⟩ h
theorem Kp.narrow {Z : Addr → Prop} {gs : Nat → Prop} {s s' : Shared} (k : Kp G Z (fun b => wr b ∨ b = I) gs s s') (hz : ∀ b, ZI b → Z b) : ∀ b o, ZI b ∨ wr b → s.heap.get? b = some o → s'.heap.get? b = some o :=
  fun b o h e => k.keep b o (h.elim (fun z => .inl (hz b z)) fun w => .inr (.inl w)) e

/-- what a step leaves, for those who ask -/
theorem gen_step {k : Nat} {gs' : GenState} {v : Value} {s' s₁ : Shared} {Z Zc : Addr → Prop} {x : PV} {Q : Option Value → Shared → Prop} (hg : g < s'.gens.size) (hI : s'.heap.IsGen I g) (hbr : gs'.bare = true)
    (hy : YP G ends xs ZI wr k (s'.setGen g .running) v s₁ (fun r s'' => gs'.Goes (model G.prog G.w) (Amax n).in1 (RP wr) (YP G ends xs ZI wr) k r s'')) (hx : xs[xs.length - 1 - k]? = some x)
    (hnI : ¬ wr I) (hzc : ∀ b, ZI b → Zc b) (hzw : ∀ b, Zc b → ¬ (wr b ∨ b = I)) (lv : Liv Zc s'.heap) (hd : ∀ b, wr b → G.base.get? b = none) (hdI : G.base.get? I = none)
    (hQ : ∀ Z'', ExtG (fun b => wr b ∨ b = I) (fun x => x = g) s' (s₁.setGen g gs') → ZG Zc s' Z'' (s₁.setGen g gs') → Rep Z'' (s₁.setGen g gs').heap x v → GFix G n I g ZI wr Z'' (s₁.setGen g gs') →
      (ends = true ∨ k ≠ 0 → ∃ gs, (s₁.setGen g gs').gens[g]? = some gs ∧ ∀ s'', (∀ b o, ZI b ∨ wr b → (s₁.setGen g gs').heap.get? b = some o → s''.heap.get? b = some o) → Bs G s'' → gs.Goes (model G.prog G.w) (Amax n).in1 (RP wr) (YP G ends xs ZI wr) k (.send .none) s'') → Q (some v) (s₁.setGen g gs')) :
    Q (some v) (s₁.setGen g gs') := by
  obtain ⟨q1, ⟨x', Z', hx', hr, hz', lz', az'⟩, q3, q4⟩ := hy
  rw [hx] at hx'
  cases hx'
  have e0 := ExtG.setGen s' g .running rfl
  have e1 : ExtG wr (fun x => x = g) s' s₁ := (e0.wide (fun _ h => h.elim) (fun _ h => .inl h)).trans q1 (fun b w => .inl w) (fun _ h => h.elim)
  have e2 : ExtG wr (fun x => x = g) s' (s₁.setGen g gs') := e1.trans (ExtG.setGen s₁ g gs' hbr) (fun _ h => h.elim) (fun _ h => .inl h)
  obtain ⟨o, nm, qn, e, r⟩ := hI
  have zI : ∀ b, Z' b → b ≠ I := fun b z q => by
    subst q
    rcases hz' b z with z | d
    · exact hzw b (hzc b z) (.inr rfl)
    · have d : s'.heap.get? b = none := d
      rw [d] at e; cases e
  have hzw' : ∀ b, Zc b → ¬ wr b := fun b z w => hzw b z (.inl w)
  refine hQ (fun b => Zc b ∨ Z' b) (e2.wide (fun b w => .inl (.inl w)) (fun _ h => .inl h)) ⟨fun b z => .inl z, fun b z => z.elim .inl fun z => (hz' b z).elim (fun z => .inl (hzc b z)) .inr, fun b z => z.elim (fun z => let ⟨o, q⟩ := lv b z; ⟨o, e2.keep b o (hzw' b z) q⟩) (lz' b)⟩ (hr.mono (fun _ z => .inr z) fun _ _ _ e => e) ?_ ?_
  · exact { notI := hnI, live := q3, apart := fun b z => z.elim (hzw' b) (az' b), apartI := fun z => z.elim (fun z => hzw I z (.inr rfl)) fun z => zI I z rfl, zi := fun b z => .inl (hzc b z), glt := Nat.lt_of_lt_of_le hg e2.gsize, dead := hd, deadI := hdI, isg := ⟨o, nm, qn, e2.keep I o hnI e, r⟩ }
  · intro hne
    exact ⟨gs', setGen_get (Nat.lt_of_lt_of_le hg e1.gsize), fun s'' hk' hbs => q4 hne s'' hk' hbs⟩

theorem gen_tail (hn : n ≤ 999) : ∀ (k : Nat) (ys : List PV) (Z : Addr → Prop) (s : Shared), ys = xs.drop (xs.length - k) → k ≤ xs.length → GFix G n I g ZI wr Z s →
    (ends = true ∨ k ≠ 0 → ∃ gs, s.gens[g]? = some gs ∧ ∀ s'', (∀ b o, ZI b ∨ wr b → s.heap.get? b = some o → s''.heap.get? b = some o) → Bs G s'' → gs.Goes (model G.prog G.w) (Amax n).in1 (RP wr) (YP G ends xs ZI wr) k (.send .none) s'') →
    ItAt G n ends I (fun x => x = g) ys Z (fun b => wr b ∨ b = I) s := by
  intro k
  induction k with
  | zero =>
    intro ys Z s hys hk fx hgo
    rw [Nat.sub_zero, List.drop_length] at hys
    subst hys
    unfold ItAt
    refine ⟨fx.its, fun s' kp he A Q E ok h => wpAny_max ok ?_⟩
    obtain ⟨gs, hgs, hgo⟩ := hgo (.inl he)
    obtain ⟨o, nm, qn, e, r⟩ := fx.isg
    have hgo' := hgo (s'.setGen g .running) (kp.narrow fx.zi) ⟨kp.bs.base, (ExtG.setGen s' g .running rfl).bare kp.bs.bare⟩
    exact gen_next hn ⟨o, nm, qn, kp.keep I o (.inr (.inr rfl)) e, r⟩ ((kp.gens g rfl).trans hgs) kp.bs fx.dead hgo' (.inl he) (fun v s₁ gs' m hm => by cases hm) fun _ s'' e => h s'' (e.wide (fun b w => .inl (.inl w)) (fun _ h => .inl h))
  | succ k ih =>
    intro ys Z s hys hk fx hgo
    have hlt : xs.length - (k + 1) < xs.length := by omega
    rw [List.drop_eq_getElem_cons hlt] at hys
    subst hys
    unfold ItAt
    refine ⟨fx.its, fun s' Zc kp hzc hzw lv A Q E ok h => wpAny_max ok ?_⟩
    obtain ⟨gs, hgs, hgo⟩ := hgo (.inr (Nat.succ_ne_zero k))
    obtain ⟨o, nm, qn, e, r⟩ := fx.isg
    have hI : s'.heap.IsGen I g := ⟨o, nm, qn, kp.keep I o (.inr (.inr rfl)) e, r⟩
    have hgo' := hgo (s'.setGen g .running) (kp.narrow fx.zi) ⟨kp.bs.base, (ExtG.setGen s' g .running rfl).bare kp.bs.bare⟩
    have hgs' := (kp.gens g rfl).trans hgs
    have hglt : g < s'.gens.size := by
      rcases Nat.lt_or_ge g s'.gens.size with q | q
      · exact q
      · rw [Array.getElem?_eq_none q] at hgs'; cases hgs'
    refine gen_next hn hI hgs' kp.bs fx.dead hgo' (.inr (Nat.succ_ne_zero k)) (fun v s₁ gs' m hm hbr hy => ?_) fun h0 => by cases h0
    cases hm
    refine gen_step (Z := Z) (x := xs[xs.length - (k + 1)]) hglt hI hbr hy ?_ fx.notI (fun b z => hzc b (fx.zi b z)) hzw lv fx.dead fx.deadI fun Z'' e2 zg hr fx' hgo'' => ?_
    · rw [show xs.length - 1 - k = xs.length - (k + 1) by omega]; exact List.getElem?_eq_getElem hlt
    · exact h v _ Z'' (fun b => wr b ∨ b = I) e2 zg hr (ih _ _ _ (by congr 1; omega) (by omega) fx' hgo'') fun b w => .inl w
end
end Mine
namespace Mine

theorem bindL_rev {κ : Str → Option NameKind} {y : Str} : ∀ (b : List (Str × Value)) (m : Str → Option Value), (∀ q ∈ b, κ q.1 = some .local) → (b.map (·.1)).Nodup → bindL κ b m y = (b.reverse.lookup y).or (m y)
  | [], m, _, _ => by simp [bindL]
  | (k, w) :: b, m, hq, hnd => by
    simp only [List.map_cons, List.nodup_cons] at hnd
    have h1 : κ k = some .local := hq (k, w) (.head _)
    unfold bindL
    rw [bindL_rev b _ (fun q h => hq q (.tail _ h)) hnd.2, List.reverse_cons, if_pos h1]
    by_cases e : y = k
    · subst e
      have : b.reverse.lookup y = none := by
        rw [List.lookup_eq_none_iff]
        intro p hp
        have := List.mem_reverse.mp hp
        simp only [beq_eq_false_iff_ne, Bool.not_eq_true, bne_iff_ne]
        intro e
        exact hnd.1 (e ▸ List.mem_map_of_mem this)
      rw [List.lookup_append, this]
      simp
    · rw [List.lookup_append, if_neg e]
      simp [List.lookup, beq_eq_false_iff_ne.mpr e]
def wr1 (k1 : Nat) (wp : Addr → Prop) (s : Shared) : Addr → Prop := fun b => wp b ∨ (s.heap.objs.size ≤ b ∧ b < s.heap.objs.size + k1)

section
variable {G : Gc} {n g k1 : Nat} {I : Addr} {ends : Bool} {xs : List PV} {ZI wp : Addr → Prop}
theorem wr1_wide {s : Shared} {b : Addr} (h : wr1 k1 wp s b) : wp b ∨ s.heap.get? b = none := h.imp id fun h => absent_of_le h.1
theorem live_lt {h : Heap} {b : Addr} (l : ∃ o, h.get? b = some o) : b < h.objs.size := let ⟨_, e⟩ := l; Heap.lt_size e

theorem gen_start {Z : Addr → Prop} {s : Shared} {c : Code} (hn : n ≤ 999) (fx : GFix G n I g ZI wp Z s) (hgs : s.gens[g]? = some (.fresh c))
    (hstart : ∀ s', (∀ b o, ZI b ∨ wp b → s.heap.get? b = some o → s'.heap.get? b = some o) → Bs G s' → Seg (model G.prog G.w) (Amax n).in1 (RP (wr1 k1 wp s')) (YP G ends xs ZI (wr1 k1 wp s')) xs.length s' c ((model G.prog G.w).den c) [] s') :
    ItAt G n ends I (fun x => x = g) xs Z (fun b => wp b ∨ b = I) s := by
  have dead1 : ∀ s' : Shared, Bs G s' → ∀ b, wr1 k1 wp s' b → G.base.get? b = none := fun s' bs b h => h.elim (fx.dead b) fun h => by
    cases e : G.base.get? b with
    | none => rfl
    | some o => exact absurd (Heap.lt_size (bs.base b o e)) (Nat.not_lt.mpr h.1)
  cases xs with
  | nil =>
    unfold ItAt
    refine ⟨fx.its, fun s' kp he A Q E ok h => wpAny_max ok ?_⟩
    obtain ⟨o, nm, qn, e, r⟩ := fx.isg
    refine gen_next (wr := wr1 k1 wp s') (xs := []) (ZI := ZI) hn ⟨o, nm, qn, kp.keep I o (.inr (.inr rfl)) e, r⟩ ((kp.gens g rfl).trans hgs) kp.bs (dead1 s' kp.bs) (k := 0)
      (And.intro rfl (hstart (s'.setGen g .running) (kp.narrow fx.zi) ⟨kp.bs.base, (ExtG.setGen s' g .running rfl).bare kp.bs.bare⟩)) (.inl he) (fun v s₁ gs' m hm => by cases hm) fun _ s'' e => h s'' (e.wide (fun b w => (wr1_wide w).imp .inl id) (fun _ h => .inl h))
  | cons x ys =>
    unfold ItAt
    refine ⟨fx.its, fun s' Zc kp hzc hzw lv A Q E ok h => wpAny_max ok ?_⟩
    obtain ⟨o, nm, qn, e, r⟩ := fx.isg
    have hI : s'.heap.IsGen I g := ⟨o, nm, qn, kp.keep I o (.inr (.inr rfl)) e, r⟩
    have hIlt : I < s'.heap.objs.size := let ⟨o, _, _, q, _⟩ := hI; Heap.lt_size q
    have hgs' := (kp.gens g rfl).trans hgs
    have hglt : g < s'.gens.size := by
      rcases Nat.lt_or_ge g s'.gens.size with q | q
      · exact q
      · rw [Array.getElem?_eq_none q] at hgs'; cases hgs'
    have hnI : ¬ wr1 k1 wp s' I := fun h => h.elim fx.notI fun h => absurd hIlt (Nat.not_lt.mpr h.1)
    refine gen_next (wr := wr1 k1 wp s') (xs := x :: ys) (ZI := ZI) (ends := ends) (k := (x :: ys).length) hn hI hgs' kp.bs (dead1 s' kp.bs) (And.intro rfl (hstart (s'.setGen g .running) (kp.narrow fx.zi) ⟨kp.bs.base, (ExtG.setGen s' g .running rfl).bare kp.bs.bare⟩))
      (.inr (by simp)) (fun v s₁ gs' m hm hbr hy => ?_) fun h0 => by simp at h0
    have hm : m = ys.length := by simp at hm; omega
    subst hm
    refine gen_step (Z := Z) (Zc := Zc) (x := x) hglt hI hbr hy (by simp) hnI (fun b z => hzc b (fx.zi b z)) (fun b z w => ?_) lv (dead1 s' kp.bs) fx.deadI fun Z'' e2 zg hr fx' hgo'' => ?_
    · rcases w with (w | w) | w
      · exact hzw b z (.inl w)
      · exact absurd (live_lt (lv b z)) (Nat.not_lt.mpr w.1)
      · exact hzw b z (.inr w)
    · refine h v _ Z'' (fun b => wr1 k1 wp s' b ∨ b = I) (e2.wide (fun b w => w.elim (fun w => (wr1_wide w).imp .inl id) fun w => .inl (.inr w)) (fun _ h => .inl h)) zg hr
        (gen_tail hn ys.length ys _ _ (by simp) (by simp) fx' hgo'') fun b w => w.elim (fun w => (wr1_wide w).imp .inl id) fun w => .inl (.inr w)

/-- what is asked of a generator's body -/
def GSpec (G : Gc) (n k1 : Nat) (d : DefRec) (σ : Loc) (xs : List PV) (ends : Bool) : Prop :=
  ∀ (F : Fi) (Z : Addr → Prop) (s : Shared), F.sc = d.scope → F.own = true → F.h0 = G.base → F.Z0 = Z → St G F Z (fun b => b = F.L) σ s →
    GW (model G.prog G.w) (Amax n).in1 (RP (wr1 k1 (fun b => b = F.L) s)) (YP G ends xs Z (wr1 k1 (fun b => b = F.L) s)) (.func d.body F.env) [] (execs d.body F.env)
      (fun n s₀ f s' => (∀ v, f = .ret v → v = .none) ∧ RP (wr1 k1 (fun b => b = F.L) s) n s₀ (.ok (.ret .none)) s') xs.length s s

theorem EvI.gen {sc : Scope} {σ : Loc} {x : Str} {d : DefRec} {e : Expr} {es : List Expr} {vs : List PV} {ns : List Str} {p pos : Pos} (hn : n ≤ 999) (hd : (x == ("__debug__" : Str)) = false)
    (hk : sc.names.lookup x = some .globalImplicit) (h1 : EvL G n sc σ (e :: es) vs) (hm : d ∈ recsOf G.p) (hx : d.name = x)
    (he : ∀ env pos, backTo pos (starEach (e :: es) env) = (false, eval e env) :: backTo pos (starEach es env))
    (hb : ∀ pm code doc ws, ws.length = vs.length → bindArgs (Calls.docDef d.name d.params d.body d.scope pm code doc) ⟨ws, []⟩ = pure (ns.zip ws))
    (hnd : ns.Nodup) (hl : ∀ y ∈ ns, d.scope.names.lookup y = some .local) (hcell : ∀ y ∈ d.scope.names, y.2 ≠ .cell)
    (hkind : d.scope.kind = .function) (hco : d.scope.isCoroutine = false) (hgen : d.scope.isGenerator = true) (hdot : d.scope.names.lookup (".0" : Str) = none)
    (hs : GSpec G n k1 d (slots ns vs) xs ends) : EvI G n sc σ (.Call (.Name x p) (e :: es) [] pos) xs ends := by
  refine ⟨fun F A Z W s Q E hsc ok st h => ?_⟩
  obtain ⟨a, o, pm, code, doc, ha, ho, hdat, hcd⟩ := G.top.fn d hm
  rw [hx] at ha
  refine wpAny_Call_NameR (evGlobal hk ha hd hsc st ?_)
  refine Calls.callWith_function (o := o) (fd := Calls.docDef d.name d.params d.body d.scope pm code doc) ?_
  rw [he]
  refine Calls.evalArgs_plain ?_
  rw [← he]
  refine h1.run F A Z W s _ _ pos hsc ok st fun us s1 Z1 e1 z1 r1 => ?_
  have st1 := st.ext e1 z1
  refine ⟨⟨e1.keep' _ _ (st.base _ _ ho), hdat⟩, ?_⟩
  have hlen := r1.length
  have hnd' : ((ns.zip us).map (·.1)).Nodup := hnd.sublist (zip_fst_sub ns us)
  refine wpAny_call (codeAny_call_generator (body := d.body) (by show A.depth < 1000; have := ok.2.1; omega) (st1.base _ _ ho) hdat hco hgen rfl (hcd.keeps st1.base) ?_)
  refine wpAny_of_eq (hb pm code doc us hlen) (wpAny_newFunctionEnv hcell (fun y hy => hl _ (List.of_mem_zip hy).1) (fun h2 hn2 hs2 => ?_) hkind)
  dsimp only at hn2 hs2 ⊢
  have k2 : ∀ b o, s1.heap.get? b = some o → h2.get? b = some o := fun b o q => (hs2.2 b (Nat.ne_of_lt (Heap.lt_size q))).trans (Heap.get?_push_of_some _ q)
  have base2 : ∀ b o, G.base.get? b = some o → h2.get? b = some o := fun b o q => k2 b o (st1.base b o q)
  refine ⟨(G.top.nolimit.keeps base2 : Heap.NoLimit _), ?_⟩
  let Fg : Fi := { sc := d.scope, L := s1.heap.objs.size, cells := [], q := d.name ++ ".<locals>.", fn := some a, cd := code, fr := some s1.heap.objs.size, own := true, Z0 := Z1, h0 := G.base }
  let o3 : Obj := { cls := .type "generator", data := .fields #[.int s1.gens.size 0, .str d.name (s1.toks + (ns.zip us).length), .str d.name (s1.toks + (ns.zip us).length + 1)] }
  let s3 : Shared := { s1 with gens := s1.gens.push (.fresh (.func d.body Fg.env)), toks := s1.toks + (ns.zip us).length + 1 + 1, heap := h2.push o3 }
  have k3 : ∀ b o, s1.heap.get? b = some o → s3.heap.get? b = some o := fun b o q => Heap.get?_push_of_some _ (k2 b o q)
  have e3 : Ext0 s1 s3 := ⟨fun b o _ q => k3 b o q, by show s1.gens.size ≤ (s1.gens.push _).size; simp, fun g x _ q => by
    show (s1.gens.push _)[g]? = some x
    rw [Array.getElem?_push]
    split
    · rename_i hg; subst hg; rw [Array.getElem?_eq_none (Nat.le_refl _)] at q; cases q
    · exact q, rfl, fun hbare => hbare.push rfl⟩
  have z3 := ZG.same z1.lt e3
  have dL : s1.heap.get? s1.heap.objs.size = none := none_size _
  have hI3 : s3.heap.get? h2.objs.size = some o3 := Heap.get?_push_size _ rfl
  have hL2 : ∃ o, h2.get? s1.heap.objs.size = some o := let ⟨o, _, _, q, _⟩ := hn2; ⟨o, q⟩
  have hLI : s1.heap.objs.size ≠ h2.objs.size := Nat.ne_of_lt (live_lt hL2)
  have dI : s1.heap.get? h2.objs.size = none := by
    cases q : s1.heap.get? h2.objs.size with
    | none => rfl
    | some o => exact absurd (Heap.lt_size (k2 _ _ q)) (Nat.lt_irrefl _)
  have hn3 : s3.heap.Ns s1.heap.objs.size (fun x => (ns.zip us).reverse.lookup x) := hn2.keeps fun b o q => Heap.get?_push_of_some _ q
  have bd : ∀ b, s1.heap.get? b = none → G.base.get? b = none := fun b q => by
    cases e : G.base.get? b with
    | none => rfl
    | some o => rw [st1.base b o e] at q; cases q
  have fx : GFix G n h2.objs.size s1.gens.size Z1 (fun b => b = s1.heap.objs.size) Z1 s3 := {
    notI := fun q => hLI q.symm
    live := fun b q => by have q : b = s1.heap.objs.size := q; subst q; obtain ⟨o, q⟩ := hL2; exact ⟨o, Heap.get?_push_of_some _ q⟩
    apart := fun b z q => by have q : b = s1.heap.objs.size := q; subst q; exact not_live z1.lt dL z
    apartI := not_live z1.lt dI
    zi := fun _ z => z
    glt := by show s1.gens.size < (s1.gens.push _).size; simp
    dead := fun b q => by have q : b = s1.heap.objs.size := q; subst q; exact bd _ dL
    deadI := bd _ dI
    isg := ⟨o3, _, _, hI3, rfl, rfl, rfl⟩ }
  have e13 := e1.trans' e3
  have nst : ∀ s' : Shared, (∀ b o, Z1 b ∨ b = s1.heap.objs.size → s3.heap.get? b = some o → s'.heap.get? b = some o) → Bs G s' → St G Fg Z1 (fun b => b = Fg.L) (slots ns vs) s' := fun s' hk' bs' => {
    b0 := fun _ _ q => q
    hk := bs'.base
    bare := bs'.bare
    zlt := fun b z => let ⟨o, q⟩ := z3.lt b z; ⟨o, hk' b o (.inl z) q⟩
    wlt := fun b q => by
      have q : b = s1.heap.objs.size := q
      subst q; obtain ⟨o, _, _, q, _⟩ := hn3; exact ⟨o, hk' _ o (.inr rfl) q⟩
    wn0 := fun b q => by have q : b = s1.heap.objs.size := q; subst q; exact bd _ dL
    disj := fun b z q => by have q : b = s1.heap.objs.size := q; subst q; exact not_live z1.lt dL z
    z0 := fun b z => .inl z
    z1 := fun b z => z
    LW := rfl
    kind := hkind
    ns := ⟨_, hn3.at' fun o q => hk' _ o (.inr rfl) q⟩
    cells := fun _ y hy => absurd rfl (hcell (y, .cell) (mem_of_lookup hy))
    inj := fun _ y y' c q => by cases q
    ownd := fun _ => rfl
    vals := fun y pv hy => by
      obtain ⟨v, hv, hr⟩ := slots_get r1 hy
      refine ⟨v, .inl ⟨hl y (slots_mem hy), _, hn3.at' fun o q => hk' _ o (.inr rfl) q, ?_⟩, hr.mono (fun _ z => z) fun b o z q => hk' b o (.inl z) (k3 b o q)⟩
      have : (bindL Fg.env.kindOf (ns.zip us) (fun _ => none)) y = some v := bindL_get _ _ hnd' hv (hl y (slots_mem hy))
      rw [← this]
      rw [bindL_rev _ _ (fun q hq => hl _ (List.of_mem_zip hq).1) hnd']
      simp
    owns := ⟨fun _ => (0 : Nat), And.intro (fun y l hy => absurd hy slots_own) (fun y _ l _ hy => absurd hy slots_own)⟩ }
  have it : ItAt G n ends h2.objs.size (fun x => x = s1.gens.size) xs Z1 (fun b => b = s1.heap.objs.size ∨ b = h2.objs.size) s3 := by
    refine gen_start (k1 := k1) hn fx (c := .func d.body Fg.env) ?_ fun s' hk' bs' => ?_
    · show (s1.gens.push _)[s1.gens.size]? = _
      simp
    · exact seg_begin (hs Fg Z1 s' rfl rfl rfl rfl (nst s' hk' bs'))
  have hgen3 : s3.heap.IsGen h2.objs.size s1.gens.size := ⟨o3, _, _, hI3, rfl, rfl, rfl⟩
  show wpAny (model G.prog G.w) A (pyIter (.ref h2.objs.size)) Q E s3
  refine wpAny_pyIter_gen hgen3 (h _ s3 Z1 _ _ e13 (z1.trans z3 e1) it (fun b q => ?_) fun g q => ?_)
  · rcases q with q | q
    · rw [q]; exact Ext0.dead e1 dL
    · rw [q]; exact Ext0.dead e1 dI
  · rw [q]; exact e1.gsize
end
end Mine
namespace Mine

theorem GC.induct {M : Model} {A : Around} {R : GenEnd} {Y : Protocol} {C c : Code} {fs : List Frame} {P : Nat → Shared → Flow → Shared → Prop} (Inv : Nat → Nat → Shared → Shared → Prop)
    (step : ∀ k n s₀ s, Inv k n s₀ s → (∀ k' n' s₀' s', k' < k → Inv k' n' s₀' s' → GC M A R Y C c fs P n' s₀' s') → GC M A R Y C c fs P n s₀ s) {k n : Nat} {s₀ s : Shared} (h : Inv k n s₀ s) : GC M A R Y C c fs P n s₀ s := by
  induction k using Nat.strongRecOn generalizing n s₀ s with
  | ind k ih => exact step k n s₀ s h fun k' n' s₀' s' hk h' => ih k' hk h'

def allScal (σ : Loc) : Bool := σ.all fun p => match p.2 with
  | .val pv => scal pv
  | .own _ => false
theorem allScal.get {σ : Loc} (h : allScal σ = true) : ∀ y sl, σ.lookup y = some sl → ∃ pv, sl = .val pv ∧ scal pv = true := fun y sl hy => by
  have := List.all_eq_true.mp h _ (mem_of_lookup hy)
  cases sl with
  | val pv => exact ⟨pv, rfl, this⟩
  | own xs => cases this

section
variable {G : Gc} {F : Fi} {Z W : Addr → Prop} {σ : Loc} {s : Shared}
theorem VarAt.wake {s'' : Shared} {y : Str} {v : Value} (st : St G F Z W σ s) (ho : F.own = true) (hk : ∀ b o, W b → s.heap.get? b = some o → s''.heap.get? b = some o) (h : VarAt F s.heap y v) : VarAt F s''.heap y v := by
  rcases h with ⟨k, m, hn, hm⟩ | ⟨k, c, hcl, oc, h3, h4⟩
  · exact .inl ⟨k, m, hn.at' fun o q => hk _ o st.LW q, hm⟩
  · refine .inr ⟨k, c, hcl, oc, ?_, h4⟩
    obtain ⟨c', _, h5, _, h6⟩ := st.cells ho y k
    rw [hcl] at h5; cases h5
    exact hk _ _ h6 h3
theorem St.wake {s'' : Shared} (st : St G F Z W σ s) (ho : F.own = true) (h0 : F.h0 = G.base) (hk : ∀ b o, Z b ∨ W b → s.heap.get? b = some o → s''.heap.get? b = some o) (bs : Bs G s'') : St G F Z W σ s'' where
  b0 := st.b0
  hk := by rw [h0]; exact bs.base
  bare := bs.bare
  zlt := fun b z => let ⟨o, q⟩ := st.zlt b z; ⟨o, hk b o (.inl z) q⟩
  wlt := fun b w => let ⟨o, q⟩ := st.wlt b w; ⟨o, hk b o (.inr w) q⟩
  wn0 := st.wn0
  disj := st.disj
  z0 := st.z0
  z1 := st.z1
  LW := st.LW
  kind := st.kind
  ns := let ⟨m, hm⟩ := st.ns; ⟨m, hm.at' fun o q => hk _ o (.inr st.LW) q⟩
  cells := fun ho y hy => let ⟨c, v, h1, ⟨oc, h2, h3⟩, h4⟩ := st.cells ho y hy; ⟨c, v, h1, ⟨oc, hk c oc (.inr h4) h2, h3⟩, h4⟩
  inj := st.inj
  ownd := st.ownd
  vals := fun y pv hy => by
    obtain ⟨v, h1, h2⟩ := st.vals y pv hy
    exact ⟨v, h1.wake st ho fun b o w => hk b o (.inr w), h2.mono (fun _ z => z) fun b o z q => hk b o (.inl z) q⟩
  owns := by
    obtain ⟨ad, h1, h2⟩ := st.owns
    refine ⟨ad, fun y xs hy => ?_, h2⟩
    obtain ⟨a1, a2, vs, ⟨k, a3⟩, a4⟩ := h1 y xs hy
    exact ⟨a1, a2.wake st ho fun b o w => hk b o (.inr w), vs, ⟨k, hk _ _ (.inr a1) a3⟩, a4.mono (fun _ z => z) fun b o z q => hk b o (.inl z) q⟩
theorem St.narrow {Z' : Addr → Prop} (st : St G F Z W σ s) (hz : ∀ b, Z' b → Z b) (h1 : ∀ b, F.Z0 b → Z' b) (hs : allScal σ = true) : St G F Z' W σ s :=
  { st with
    zlt := fun b z => st.zlt b (hz b z)
    disj := fun b z => st.disj b (hz b z)
    z0 := fun b z => st.z0 b (hz b z)
    z1 := h1
    vals := fun y pv hy => by
      obtain ⟨v, q1, q2⟩ := st.vals y pv hy
      obtain ⟨pv', e, q3⟩ := allScal.get hs y _ hy
      cases e
      exact ⟨v, q1, q2.scal q3⟩
    owns := by
      obtain ⟨ad, q1, q2⟩ := st.owns
      refine ⟨ad, fun y xs hy => ?_, q2⟩
      obtain ⟨pv', e, _⟩ := allScal.get hs y _ hy
      cases e }
end

/-! the grounds of a generator's parts -/
section
variable {n : Nat}
theorem over_func (h1 : 40 ≤ n) (h2 : n ≤ 999) {body : List Stmt} {env : Env} : OkA 0 ((Amax n).in1.over (.func body env) []) := by
  refine ⟨rfl, ?_, ?_⟩
  · show 999 - n + 0 + (Code.func body env).weight + 0 < 1000
    have : (Code.func body env).weight = 1 := rfl
    omega
  · show 9799 - 8 * n + 1 + 0 + (Code.func body env).cUnits + 8 * 0 + 100 < 9900
    have : (Code.func body env).cUnits = 3 := rfl
    omega
theorem over_one (h1 : 40 ≤ n) (h2 : n ≤ 999) {body : List Stmt} {env : Env} {fr : Frame} (w : Waits (.func body env) fr) {c : Code} (hc : c.weight = 0) (hu : c.cUnits = 0) : OkA 0 ((Amax n).in1.over c [fr]) := by
  cases w
  refine ⟨rfl, ?_, ?_⟩
  · show 999 - n + ((Code.func body env).weight + 0) + c.weight + 0 < 1000
    have : (Code.func body env).weight = 1 := rfl
    omega
  · show 9799 - 8 * n + 1 + ((Code.func body env).cUnits + 0) + c.cUnits + 8 * 0 + 100 < 9900
    have : (Code.func body env).cUnits = 3 := rfl
    omega
theorem over_two (h1 : 40 ≤ n) (h2 : n ≤ 999) {body : List Stmt} {env : Env} {fr fr' : Frame} (w : Waits (.func body env) fr) {c' : Code} (w' : Waits c' fr') (hc' : c'.weight = 0) (hu' : c'.cUnits = 0) {c : Code} (hc : c.weight = 0) (hu : c.cUnits = 0) :
    OkA 0 ((Amax n).in1.over c [fr', fr]) := by
  cases w
  cases w'
  refine ⟨rfl, ?_, ?_⟩
  · show 999 - n + (c'.weight + ((Code.func body env).weight + 0)) + c.weight + 0 < 1000
    have : (Code.func body env).weight = 1 := rfl
    omega
  · show 9799 - 8 * n + 1 + (c'.cUnits + ((Code.func body env).cUnits + 0)) + c.cUnits + 8 * 0 + 100 < 9900
    have : (Code.func body env).cUnits = 3 := rfl
    omega
end

/-! an assignment of a constant, the heap's size known -/
section
variable {G : Gc} {F : Fi} {Z W : Addr → Prop} {σ : Loc} {s : Shared} {sc : Scope}
theorem assignConst {A : Around} {x : Str} {e : Expr} {pv : PV} {p pos : Pos} {Q : Flow → Shared → Prop} {E : Value → Shared → Prop} (hsc : F.sc = sc) (st : St G F Z W σ s)
    (he : ∀ {Q : Value → Shared → Prop}, (∀ v tk, (∀ Z h, Rep Z h pv v) → Q v { s with toks := tk }) → wpAny (model G.prog G.w) A (eval e F.env) Q E s)
    (hk : sc.names.lookup x = some .local) (hs : ∀ env, swapsWith e (some (.Name x p)) pos.line env = pure false)
    (h : ∀ s', s'.heap.objs.size = s.heap.objs.size → Gr Z W s Z W s' → St G F Z W ((x, .val pv) :: σ) s' → Q .next s') : wpAny (model G.prog G.w) A (exec (.Assign [.Name x p] e pos) F.env) Q E s := by
  refine wpAny_Assign_Name (he fun v tk hv => ?_) (hs _)
  have e1 := Ext0.tok s tk
  have z1 := ZG.same st.zlt e1
  exact (st.ext e1 z1).putB (.inl (by rw [hsc]; exact hk)) (hv _ _) fun s' hsz g st' => h s' hsz ((Gr.of e1 z1).trans g) st'
end

theorem end_wide {prog : Program} {w : World} {A : Around} {E : Value → Shared → Prop} {s : Shared} {it : Addr} {x : Str} {t : Tok} {i : Nat} {Q : Value → Shared → Prop} (hh : A.handled = none) (hit : s.heap.IsStrIter it "str_iterator" x t i) (hx : x.cps[i]? = none)
    (hE : ∀ h' e, Heap.ExtBut it s.heap h' → (∃ o, h'.get? it = some o) → (∃ o, h'.get? e = some o ∧ o.cls = .type "StopIteration") → E (.ref e) { s with heap := h' }) :
    wpAny (model prog w) A (Builtin.SmallTypes.nextOf (.ref it)) Q E s := by
  obtain ⟨o, ho, hc, hd⟩ := id hit
  unfold Builtin.SmallTypes.nextOf
  refine wpAny_bind (wpAny_callSpecial?_slot (name := Str.ofString "__next__") hit.typeIs PySem.F.slot_str_iterator_next
    (wpAny_call_entry PySem.F.slot_str_iterator_next hit.typeIs PySem.F.entry_str_iterator_next ?_ (PySem.F.args_str_iterator_next_1 _)))
  show wpAny _ _ (field (.ref it) 0 >>= _) _ _ s
  refine wpAny_bind (wpAny_field ho hd (x := .str x t) rfl ?_)
  show wpAny _ _ (field (.ref it) 1 >>= _) _ _ s
  refine wpAny_bind (wpAny_field ho hd (x := .int i 0) rfl ?_)
  simp only [Int.toNat_natCast, hx]
  refine wpAny_bind (wpAny_rule (wpAny_bind (wpAny_setField ho hd (by simp) (wpAny_bind (wpAny_letGo ?_)))))
  show wpAny _ _ (newExc (.type "StopIteration") [] >>= _) _ _ _
  refine wpAny_bind ?_
  simp only [newExc, newTuple]
  refine wpAny_bind (wpAny_newObj_type ?_ (by size_fits))
  refine wpAny_bind (m := firstArgMember _ _) (wpAny_of_eq (a := Value.none) (by first | rfl | (simp only [firstArgMember]; rfl)) ?_)
  refine wpAny_newObj_type ?_ (by size_fits)
  simp only [raiseNew]
  refine wpAny_bind (wpAny_handled ?_)
  first | rw [show A.in1.handled = none from hh] | rw [hh]
  refine wpAny_bind (wpAny_pure (wpAny_throw ?_))
  exact hE _ _ (((Heap.SameBut.update ..).extBut.push _).push _) ⟨_, Heap.get?_push_of_some _ (Heap.get?_push_of_some _ (Heap.get?_update_self _ ho (Obj.isFreed_of_fields (Obj.data_mapFields hd _))))⟩ ⟨_, Heap.get?_push_size _ rfl, rfl⟩

theorem end_ascii {prog : Program} {w : World} {A : Around} {E : Value → Shared → Prop} {s : Shared} {it : Addr} {x : Str} {t : Tok} {i : Nat} {Q : Value → Shared → Prop} (hh : A.handled = none) (hit : s.heap.IsStrIter it "str_ascii_iterator" x t i) (hx : x.cps[i]? = none)
    (hE : ∀ h' e, Heap.ExtBut it s.heap h' → (∃ o, h'.get? it = some o) → (∃ o, h'.get? e = some o ∧ o.cls = .type "StopIteration") → E (.ref e) { s with heap := h' }) :
    wpAny (model prog w) A (Builtin.SmallTypes.nextOf (.ref it)) Q E s := by
  obtain ⟨o, ho, hc, hd⟩ := id hit
  unfold Builtin.SmallTypes.nextOf
  refine wpAny_bind (wpAny_callSpecial?_slot (name := Str.ofString "__next__") hit.typeIs PySem.F.slot_str_ascii_iterator_next
    (wpAny_call_entry PySem.F.slot_str_ascii_iterator_next hit.typeIs PySem.F.entry_str_ascii_iterator_next ?_ (PySem.F.args_str_ascii_iterator_next_1 _)))
  show wpAny _ _ (field (.ref it) 0 >>= _) _ _ s
  refine wpAny_bind (wpAny_field ho hd (x := .str x t) rfl ?_)
  show wpAny _ _ (field (.ref it) 1 >>= _) _ _ s
  refine wpAny_bind (wpAny_field ho hd (x := .int i 0) rfl ?_)
  simp only [Int.toNat_natCast, hx]
  refine wpAny_bind (wpAny_rule (wpAny_bind (wpAny_setField ho hd (by simp) (wpAny_bind (wpAny_letGo ?_)))))
  show wpAny _ _ (newExc (.type "StopIteration") [] >>= _) _ _ _
  refine wpAny_bind ?_
  simp only [newExc, newTuple]
  refine wpAny_bind (wpAny_newObj_type ?_ (by size_fits))
  refine wpAny_bind (m := firstArgMember _ _) (wpAny_of_eq (a := Value.none) (by first | rfl | (simp only [firstArgMember]; rfl)) ?_)
  refine wpAny_newObj_type ?_ (by size_fits)
  simp only [raiseNew]
  refine wpAny_bind (wpAny_handled ?_)
  first | rw [show A.in1.handled = none from hh] | rw [hh]
  refine wpAny_bind (wpAny_pure (wpAny_throw ?_))
  exact hE _ _ (((Heap.SameBut.update ..).extBut.push _).push _) ⟨_, Heap.get?_push_of_some _ (Heap.get?_push_of_some _ (Heap.get?_update_self _ ho (Obj.isFreed_of_fields (Obj.data_mapFields hd _))))⟩ ⟨_, Heap.get?_push_size _ rfl, rfl⟩

/-- the end of an enumeration of a text, its parts alive -/
theorem enum_str_end {prog : Program} {w : World} {A : Around} {E : Value → Shared → Prop} {s : Shared} {e it : Addr} {x : Str} {t : Tok} {i : Int} {k : Nat} {old : Value} {Q : Option Value → Shared → Prop} (hh : A.handled = none)
    (he : IsEnum s.heap e it i old) (hit : s.heap.IsStrIter it (strIterType x) x t k) (hx : x.cps[k]? = none) (hQ : ∀ h', Heap.ExtBut it s.heap h' → (∃ o, h'.get? it = some o) → Q none { s with heap := h' }) :
    wpAny (model prog w) A (pyNext (.ref e)) Q E s := by
  have hT : s.TypeIs (.ref e) "enumerate" := ⟨_, he, rfl⟩
  have fin : ∀ {A : Around} {Q : Value → Shared → Prop} {E : Value → Shared → Prop}, A.handled = none → (∀ h' e, Heap.ExtBut it s.heap h' → (∃ o, h'.get? it = some o) → (∃ o, h'.get? e = some o ∧ o.cls = .type "StopIteration") → E (.ref e) { s with heap := h' }) →
      wpAny (model prog w) A (Builtin.SmallTypes.nextOf (.ref it)) Q E s := fun hA hE => by
    cases ha : x.cps.all (· < 128)
    · simp only [strIterType, ha] at hit; exact end_wide hA hit hx hE
    · simp only [strIterType, ha] at hit; exact end_ascii hA hit hx hE
  unfold pyNext
  refine wpAny_bind (wpAny_attempt (wpAny_callSpecial?_slot (name := Str.ofString "__next__") hT PySem.F.slot_enumerate_next
    (wpAny_call_entry PySem.F.slot_enumerate_next hT PySem.F.entry_enumerate_next ?_ (PySem.F.args_enumerate_next_1 _))))
  show wpAny _ A.in1 (field (.ref e) 2 >>= _) _ _ _
  refine wpAny_bind (wpAny_field he rfl (x := .ref it) rfl ?_)
  refine wpAny_bind (fin (show A.in1.handled = none from hh) fun h' y he' hl' hx' => ?_)
  obtain ⟨o, ho, hc⟩ := hx'
  refine wpAny_bind (wpAny_isInstance (T := "StopIteration") (b := true) ⟨o, ho, hc⟩ isSubtype_stop ?_)
  exact wpAny_pure (hQ _ he' hl')
theorem YP.intro {G : Gc} {ends : Bool} {xs : List PV} {ZI wr Z6 : Addr → Prop} {m : Nat} {s₀ s5 s6 : Shared} {x : PV} {v : Value} {kap : Resume → Shared → Prop} (hext : ExtG wr no s₀ s5) (lw : Liv wr s5.heap) (e : Ext0 s5 s6) (z : ZG ZI s5 Z6 s6)
    (hzw : ∀ b, ZI b → ¬ wr b) (hx : xs[xs.length - 1 - m]? = some x) (r : Rep Z6 s6.heap x v)
    (hk : (ends = true ∨ m ≠ 0) → ∀ s'', (∀ b o, ZI b ∨ wr b → s6.heap.get? b = some o → s''.heap.get? b = some o) → Bs G s'' → kap (.send .none) s'') : YP G ends xs ZI wr m s₀ v s6 kap := by
  have nd : ∀ b, s5.heap.get? b = none → ¬ wr b := fun b d w => by obtain ⟨o, q⟩ := lw b w; rw [d] at q; cases q
  refine ⟨hext.trans e (fun _ h => h.elim) (fun _ h => h.elim), ⟨x, Z6, hx, r, fun b q => (z.new b q).imp id fun d => (hext.dead d).elim id fun w => (nd b d w).elim, z.lt, fun b q => (z.new b q).elim (hzw b) (nd b)⟩, fun b w => let ⟨o, q⟩ := lw b w; ⟨o, e.keep' b o q⟩, hk⟩
theorem cutLast {α : Type} {pre tl : List α} {x : α} {xs : List α} (h : xs = pre ++ x :: tl) : xs[xs.length - 1 - tl.length]? = some x := by
  subst h
  have : (pre ++ x :: tl).length - 1 - tl.length = pre.length := by simp
  rw [this]
  simp
end Mine
namespace Mine

def isCell (k : Option NameKind) : Bool := match k with
  | some .cell => true
  | _ => false
def isLocal (k : Option NameKind) : Bool := match k with
  | some .local => true
  | _ => false
theorem isCell_eq {k : Option NameKind} (h : isCell k = true) : k = some .cell := by
  unfold isCell at h; split at h <;> simp_all
theorem isLocal_eq {k : Option NameKind} (h : isLocal k = true) : k = some .local := by
  unfold isLocal at h; split at h <;> simp_all
def isFn (k : ScopeKind) : Bool := match k with
  | .function => true
  | _ => false
theorem isFn_eq {k : ScopeKind} (h : isFn k = true) : k = .function := by
  unfold isFn at h; split at h <;> simp_all
def hasFree (l : List (Str × NameKind)) (y : Str) : Bool := l.any fun p => p.1 == y && (match p.2 with | .free => true | _ => false)
theorem hasFree_mem {l : List (Str × NameKind)} {y : Str} (h : hasFree l y = true) : (y, NameKind.free) ∈ l := by
  obtain ⟨p, hp, h⟩ := List.any_eq_true.mp h
  obtain ⟨h1, h2⟩ := Bool.and_eq_true_iff.mp h
  obtain ⟨a, b⟩ := p
  have e1 : a = y := beq_iff_eq.mp h1
  have e2 : b = .free := by
    dsimp only at h2
    split at h2 <;> simp_all
  subst e1 e2
  exact hp
def nameOk (sc scope : Scope) (p : Str × NameKind) : Bool := match p.2 with
  | .cell => false
  | .local => isLocal (scope.names.lookup p.1)
  | .free => isCell (sc.names.lookup p.1)
  | _ => true
/-- what a comprehension's table must be -/
def compB (sc scope : Scope) (keys : List Str) : Bool :=
  scope.names.all (nameOk sc scope) && ((relab scope sc).names.lookup (".0" : Str)).isSome && (sc.names.lookup (".0" : Str)).isNone && keys.all (fun y => hasFree scope.names y && isCell ((relab scope sc).names.lookup y)) && isFn scope.kind
def allVal (σ : Loc) : Bool := σ.all fun p => match p.2 with
  | .val _ => true
  | .own _ => false

section
variable {G : Gc} {n : Nat} {σ τ κ : Loc} {sc : Scope} {o : Out}

theorem compB_use {scope : Scope} (h : compB sc scope (κ.map (·.1)) = true) (hs : subL κ σ) (hv : allVal κ = true) :
    Caps sc scope σ κ ∧ FreeOk sc scope ∧ (relab scope sc).names.lookup (".0" : Str) ≠ none ∧ sc.names.lookup (".0" : Str) = none ∧ (∀ y ∈ scope.names, y.2 ≠ .cell) ∧ scope.kind = .function ∧ ∀ y ∈ scope.names, y.2 = .local → scope.names.lookup y.1 = some .local := by
  unfold compB at h
  simp only [Bool.and_eq_true] at h
  obtain ⟨⟨⟨⟨h1, h2⟩, h3⟩, h4⟩, h5⟩ := h
  have h1 := List.all_eq_true.mp h1
  have h4 := List.all_eq_true.mp h4
  refine ⟨fun y sl hy => ?_, fun p hp hf => ?_, ?_, ?_, fun y hy hc => ?_, isFn_eq h5, fun y hy hl => ?_⟩
  · have hm := mem_of_lookup hy
    obtain ⟨q1, q2⟩ := Bool.and_eq_true_iff.mp (h4 y (List.mem_map_of_mem (f := (·.1)) hm))
    refine ⟨?_, hs.out y sl hy, hasFree_mem q1, isCell_eq q2⟩
    have := List.all_eq_true.mp hv _ hm
    cases sl with
    | val pv => exact ⟨pv, rfl⟩
    | own xs => cases this
  · have := h1 p hp
    unfold nameOk at this
    rw [hf] at this
    exact isCell_eq this
  · intro e; rw [e] at h2; cases h2
  · exact Option.isNone_iff_eq_none.mp h3
  · have := h1 y hy
    unfold nameOk at this
    rw [hc] at this; cases this
  · have := h1 y hy
    unfold nameOk at this
    rw [hl] at this
    exact isLocal_eq this

theorem Ev.compr {elt t iter : Expr} {ifs : List Expr} {scope : Scope} {pos : Pos} {xs ys : List PV} (κ : Loc)
    (h1 : EvI G n sc σ iter xs true) (hlen : xs.length ≤ 1000000) (hB : compB sc scope (κ.map (·.1)) = true) (hsub : subL κ σ) (hv : allVal κ = true) (hs : ∀ env x, foldedSetIterable iter env x = pure x)
    (hc : CompOk G n (relab scope sc) κ t ifs elt xs ys) : Ev G n sc σ (.ListComp elt [⟨t, iter, ifs, 0⟩] scope pos) (.list ys) := by
  obtain ⟨q1, q2, q3, q4, q5, q6, q7⟩ := compB_use hB hsub hv
  exact Ev.comp h1 hlen hc q1 q2 q3 q4 q5 q6 q7 hs
theorem Ex1.assignCompr {x : Str} {elt t iter : Expr} {ifs : List Expr} {scope : Scope} {cp p pos : Pos} {xs ys : List PV} (κ : Loc)
    (h1 : EvI G n sc σ iter xs true) (hlen : xs.length ≤ 1000000) (hB : compB sc scope (κ.map (·.1)) = true) (hsub : subL κ σ) (hv : allVal κ = true) (hs : ∀ env x, foldedSetIterable iter env x = pure x)
    (hk : sc.names.lookup x = some .local ∨ sc.names.lookup x = some .cell) (hc : CompOk G n (relab scope sc) κ t ifs elt xs ys) :
    Ex1 G n sc σ (.Assign [.Name x p] (.ListComp elt [⟨t, iter, ifs, 0⟩] scope cp) pos) (.next ((x, .val (.list ys)) :: σ)) := by
  obtain ⟨q1, q2, q3, q4, q5, q6, q7⟩ := compB_use hB hsub hv
  exact Ex1.assignComp h1 hlen hc q1 q2 q3 q4 q5 q6 q7 hs hk

/-- items by a function, tests by one, elements by one -/
theorem CompOk.map {α : Type} {t elt : Expr} {ifs : List Expr} (g : α → PV) (p : α → Bool) (f : α → PV) : ∀ (l : List α),
    (∀ a ∈ l, ∃ τ, AsV G false sc σ t (g a) τ ∧ Tests G n sc τ ifs (p a) ∧ (p a = true → Ev G n sc τ elt (f a)) ∧ subL σ τ) → CompOk G n sc σ t ifs elt (l.map g) ((l.filter p).map f)
  | [], _ => .nil
  | a :: l, h => by
    obtain ⟨τ, h1, h2, h3, h4⟩ := h a (.head _)
    have ih := CompOk.map g p f l fun b hb => h b (.tail _ hb)
    have := CompOk.cons h1 h2 h3 ih h4.out
    cases hp : p a with
    | true => rw [hp] at this; rw [List.filter_cons_of_pos hp]; exact this
    | false => rw [hp] at this; rw [List.filter_cons_of_neg (by rw [hp]; exact Bool.false_ne_true)]; exact this
theorem Tests.cond {e : Expr} {b b' : Bool} (h : EvT G n sc σ e b) (hb : b = b') : Tests G n sc σ [e] b' := hb ▸ .one h

theorem joinT_ones (l : Tx) : joinT [] (l.map fun x => [x]) = l := by
  cases l with
  | nil => rfl
  | cons a r =>
    show (r.map fun x => [x]).foldl (fun acc p => acc ++ [] ++ p) [a] = a :: r
    have : ∀ (r : Tx) (acc : Tx), (r.map fun x => [x]).foldl (fun acc p => acc ++ [] ++ p) acc = acc ++ r := by
      intro r
      induction r with
      | nil => intro acc; simp
      | cons b r ih => intro acc; rw [List.map_cons, List.foldl_cons, ih]; simp
    rw [this]; rfl
theorem joinT_nil (l : List Tx) : joinT [] l = l.flatten := by
  cases l with
  | nil => rfl
  | cons a r =>
    show r.foldl (fun acc p => acc ++ [] ++ p) a = (a :: r).flatten
    have : ∀ (r : List Tx) (acc : Tx), r.foldl (fun acc p => acc ++ [] ++ p) acc = acc ++ r.flatten := by
      intro r
      induction r with
      | nil => intro acc; simp
      | cons b r ih => intro acc; rw [List.foldl_cons, ih]; simp
    rw [this]; rfl
theorem joinW_ones (l : Tx) : joinW [] (l.map fun x => [x]) = l.length := by
  unfold joinW
  induction l with
  | nil => rfl
  | cons a r ih => simp only [List.map_cons, List.sum_cons, List.length_cons] at *; simp at *; omega
theorem sts_ones (l : Tx) : (l.map fun x => PV.str [x]) = sts (l.map fun x => [x]) := by simp [sts]
theorem one_lt (a b : Nat) : (([a] : Tx) < [b]) ↔ a < b := by
  constructor
  · intro h
    cases h with
    | rel h => exact h
    | cons h => cases h
  · intro h; exact .rel h
theorem one_dec (a b : Nat) : decide (([a] : Tx) < [b]) = decide (a < b) := by
  rw [Bool.eq_iff_iff, decide_eq_true_eq, decide_eq_true_eq, one_lt]
theorem slc_init (c : Tx) : slc c none (some (-1)) = c.dropLast := by
  unfold slc clip
  simp only [show (-1 : Int) < 0 from by decide, if_true]
  rw [List.drop_zero, List.dropLast_eq_take]
  congr 1
  omega

theorem wpAny_setItem_last {A : Around} {E : Value → Shared → Prop} {s : Shared} {prog : Program} {w : World} {l : Addr} {items : Array Value} {k : Int} {t : Tok} {v : Value} {Q : Unit → Shared → Prop} (hl : s.heap.PlainList l items)
    (h0 : k < 0) (h1 : -(items.size : Int) ≤ k) (hsz : items.size ≤ 1000000)
    (hQ : ∀ h', h'.PlainList l (items.setIfInBounds (k + items.size).toNat v) → Heap.SameBut l s.heap h' → Q () { s with heap := h' }) :
    wpAny (model prog w) A (setItem (.ref l) (.int k t) v) Q E s := by
  obtain ⟨n, ho⟩ := id hl
  have hL := hl.isList
  unfold setItem
  try with_reducible refine wpAny_holding ?_
  first | refine wpAny_bind (wpAny_pure ?_) | skip
  refine wpAny_bind (wpAny_sequenceKey hL.typeIs (by decide) ?_)
  refine wpAny_bind (wpAny_callSpecial?_slot (name := Str.ofString "__setitem__") hL.typeIs slot_list_setitem
    (wpAny_call_entry slot_list_setitem hL.typeIs entry_list_setitem ?_ (args_list_setitem _ _ _)))
  show wpAny _ _ (Builtin.List.listSubscript? (.int k t) >>= _) _ _ s
  refine wpAny_bind (wpAny_listSubscript_int (fitsIndex_neg h0 (by omega)) ?_)
  have hidx := seqIndex_neg h0 h1
  have hlt : (k + items.size).toNat < items.size := by omega
  obtain ⟨j, rfl⟩ : ∃ j : Nat, k = Int.negSucc j := by
    cases k with
    | ofNat n => exact absurd h0 (Int.not_lt.mpr (Int.natCast_nonneg n))
    | negSucc n => exact ⟨n, rfl⟩
  show wpAny _ _ ((Builtin.List.listItems (.ref l) >>= fun xs => pure ((seqIndex? (Int.negSucc j) xs.size).bind fun i => xs[i]?.map (i, ·))) >>= _) _ _ s
  refine wpAny_bind (wpAny_bind ?_)
  show wpAny _ _ (seqItems? (.ref l) >>= _) _ _ s
  refine wpAny_bind (wpAny_seqItems ho rfl (wpAny_pure (wpAny_pure ?_)))
  rw [hidx]
  simp only [Option.bind_some, Array.getElem?_eq_getElem hlt, Option.map_some]
  refine wpAny_bind (wpAny_setSeqItemAt ho rfl ?_)
  have hfin : (s.heap.update l (Obj.mapSeq (·.setIfInBounds (Int.negSucc j + items.size).toNat v))).PlainList l (items.setIfInBounds (Int.negSucc j + items.size).toNat v) := ⟨_, Heap.get?_update_self _ ho rfl⟩
  first
    | exact wpAny_bind (wpAny_pure (wpAny_pure ⟨.none, rfl, wpAny_pure (hQ _ hfin (Heap.SameBut.update ..))⟩))
    | exact wpAny_pure ⟨.none, rfl, wpAny_pure (hQ _ hfin (Heap.SameBut.update ..))⟩

theorem setLast {α : Type} (pre : List α) (a b : α) : (pre ++ [a]).set ((-1 : Int) + ((pre ++ [a]).length : Nat)).toNat b = pre ++ [b] := by
  have : ((-1 : Int) + ((pre ++ [a]).length : Nat)).toNat = pre.length := by simp; omega
  rw [this]; simp
theorem Reps.split {Z : Addr → Prop} {h : Heap} : ∀ {xs ys : List PV} {vs : List Value}, Reps Z h (xs ++ ys) vs → ∃ us ws, vs = us ++ ws ∧ Reps Z h xs us ∧ Reps Z h ys ws
  | [], ys, vs, r => ⟨[], vs, rfl, rfl, r⟩
  | x :: xs, ys, vs, r => by
    obtain ⟨v, ws, rfl, r1, r2⟩ := r
    obtain ⟨us, zs, rfl, q1, q2⟩ := Reps.split r2
    exact ⟨v :: us, zs, rfl, ⟨v, us, rfl, r1, q1⟩, q2⟩
/-- x[-1] op= e, the list the frame's own -/
theorem Ex1.augLast {x : Str} {e i : Expr} {pre : List PV} {a b c : PV} {op : Operator} {p tp pos : Pos} (hx : σ.lookup x = some (.own (pre ++ [a]))) (hi : Ev G n sc σ i (.int (-1))) (h1 : Ev G n sc σ e b) (h2 : InV G n op a b c) (hsa : scal a = true) (hd : (x == ("__debug__" : Str)) = false) (hlen : pre.length < 1000000)
    (hst : ∀ ov iv new, augStore i ov iv new = (do holding [new, ov, iv] (setItem ov iv new); release [new, ov, iv] []; pure .next)) : Ex1 G n sc σ (.AugAssign (.Subscript (.Name x p) i tp) op e pos) (.next ((x, .own (pre ++ [c])) :: σ)) := by
  refine ⟨fun F A Z W s Q E hsc ho ok st h => ?_⟩
  refine wpAny_AugAssign_SubscriptAny ?_ hst
  obtain ⟨ad, vs, wa, va, hp, hr, _⟩ := st.ownUpd hx
  refine st.load va hd (hi.run F A Z W s _ _ hsc ok st fun iv s1 Z1 e1 z1 r1 => ?_)
  simp only [Rep] at r1
  obtain ⟨t, rfl⟩ := r1
  have st1 := st.ext e1 z1
  have hp1 : s1.heap.PlainList ad vs.toArray := let ⟨k, q⟩ := hp; ⟨k, e1.keep' _ _ q⟩
  have hlv : vs.length = pre.length + 1 := by rw [hr.length]; simp
  obtain ⟨us, ws, rfl, hru, hrw⟩ := hr.split
  simp only [Reps] at hrw
  obtain ⟨va', ws', rfl, hra, rfl⟩ := hrw
  have hul := hru.length
  refine wpAny_getItem_list_neg hp1.isList (by decide) (by simp; omega) (by decide) (x := va') ?_ ?_
  · simp
    have : ((-1 : Int) + ((us.length : Int) + 1)).toNat = us.length := by omega
    rw [this]; simp
  refine h1.run F A Z1 W s1 _ _ hsc ok st1 fun v s2 Z2 e2 z2 r2 => ?_
  have st2 := st1.ext e2 z2
  refine h2 A Z2 s2 va' v _ _ ok z2.lt (hra.scal hsa) r2 fun w s3 Z3 e3 z3 r3 => ?_
  have st3 := st2.ext e3 z3
  obtain ⟨a1, vs1, wa1, va1, hp3, hr3, upd⟩ := st3.ownUpd hx
  have e13 := e1.trans' (e2.trans' e3)
  have ea : Value.ref ad = .ref a1 := (va.mono e13.keep').inj va1
  cases ea
  obtain ⟨us3, ws3, rfl, hru3, hrw3⟩ := hr3.split
  simp only [Reps] at hrw3
  obtain ⟨va3, ws3', rfl, hra3, rfl⟩ := hrw3
  have hul3 := hru3.length
  refine wpAny_setItem_last hp3 (by decide) (by simp; omega) (by simp; omega) fun h' hp' hs' => ?_
  obtain ⟨g4, st4⟩ := upd h' (us3 ++ [w]) (pre ++ [c]) s3.toks (by
    have := setLast us3 va3 w
    simp only [List.size_toArray] at hp'
    rw [List.setIfInBounds_toArray] at hp'
    rw [this] at hp'
    exact hp') hs' (hru3.append ⟨w, [], rfl, r3, rfl⟩)
  exact h _ _ Z3 W ((Gr.of e13 (z1.trans (z2.trans z3 e2) e1)).trans g4) ⟨rfl, st4⟩

/-- a, b = ([], []): two lists of the frame's own -/
theorem Ex1.twoOwn {ts : List Expr} {a b : Str} {p1 p2 kp tp pos : Pos} {k kk : Nat} (ha : sc.names.lookup a = some .local) (hb : sc.names.lookup b = some .local)
    (hs : ∀ env, swapsWithSole [.Tuple ts kk tp] (.Tuple [.List [] p1, .List [] p2] k kp) pos.line env = pure false) (hw : ∀ F : Fi, F.sc = sc → swappedStores [.Tuple ts kk tp] (.Tuple [.List [] p1, .List [] p2] k kp) F.env = pure (some [a, b])) :
    Ex1 G n sc σ (.Assign [.Tuple ts kk tp] (.Tuple [.List [] p1, .List [] p2] k kp) pos) (.next ((a, .own []) :: (b, .own []) :: σ)) := by
  refine ⟨fun F A Z W s Q E hsc ho ok st h => ?_⟩
  have mk : ∀ (q : Pos) (s : Shared) (Q : Value → Shared → Prop), Q (.ref s.heap.objs.size) { s with heap := s.heap.push { cls := .type "list", data := .seq ([] : List Value).toArray } } → wpAny (model G.prog G.w) A (eval (.List [] q) F.env) Q E s := fun q s Q hq =>
    wpAny_List (wpAny_items_nil ⟨by simp, hq⟩)
  let s1 : Shared := { s with heap := s.heap.push { cls := .type "list", data := .seq ([] : List Value).toArray } }
  let s2 : Shared := { s1 with heap := s1.heap.push { cls := .type "list", data := .seq ([] : List Value).toArray } }
  let s3 : Shared := { s2 with heap := s2.heap.push { cls := .type "tuple", data := .seq [Value.ref s.heap.objs.size, Value.ref s1.heap.objs.size].toArray } }
  have g1 : s1.heap.get? s.heap.objs.size = some { cls := .type "list", data := .seq ([] : List Value).toArray } := Heap.get?_push_size _ rfl
  have g2 : s2.heap.get? s1.heap.objs.size = some { cls := .type "list", data := .seq ([] : List Value).toArray } := Heap.get?_push_size _ rfl
  have g3 : s3.heap.get? s2.heap.objs.size = some { cls := .type "tuple", data := .seq [Value.ref s.heap.objs.size, Value.ref s1.heap.objs.size].toArray } := Heap.get?_push_size _ rfl
  have e1 : Ext0 s s1 := Ext0.push s _ s.toks
  have e2 : Ext0 s1 s2 := Ext0.push s1 _ s1.toks
  have e3 : Ext0 s2 s3 := Ext0.push s2 _ s2.toks
  have e13 := e1.trans' (e2.trans' e3)
  have n1 : s.heap.get? s.heap.objs.size = none := none_size _
  have n2 : s.heap.get? s1.heap.objs.size = none := Ext0.dead e1 (none_size _)
  have hne : s.heap.objs.size ≠ s1.heap.objs.size := Nat.ne_of_lt (Heap.lt_size g1)
  refine Assign_Tuple_swapped (wpAny_Tuple ?_) (hs _) (hw F hsc)
  refine wpAny_items_cons (mk _ _ _ ?_) rfl
  refine wpAny_items_cons (mk _ _ _ ?_) rfl
  refine wpAny_items_nil ⟨by rw [sizeLine_eq]; simp, ?_⟩
  show wpAny _ A (unpackItems (.ref s2.heap.objs.size) 2 none) _ E s3
  refine wpAny_unpackItems_tuple (items := [Value.ref s.heap.objs.size, Value.ref s1.heap.objs.size].toArray) ok.1 ⟨_, g3, rfl, _, rfl⟩ fun h' hb' => ?_
  have e4 := Ext0.extBut hb'
  have e14 := e13.trans' e4
  have z14 : ZG Z s Z { s3 with heap := h' } := ZG.same st.zlt e14
  have st4 := st.ext e14 z14
  have p1 : ∀ c, s1.heap.get? c = some { cls := .type "list", data := .seq ([] : List Value).toArray } → h'.PlainList c ([] : List Value).toArray := fun c q => ⟨0, (e2.trans' (e3.trans' e4)).keep' _ _ q⟩
  have h01 : ∀ c, s.heap.get? c = none → F.h0.get? c = none := fun c q => by
    cases e : F.h0.get? c with
    | none => rfl
    | some o => rw [st.hk c o e] at q; cases q
  have nw : ∀ c, s.heap.get? c = none → ¬ W c := fun c q w => by obtain ⟨o, e⟩ := st.wlt c w; rw [q] at e; cases e
  refine assignInOrder_cons (bindName_ (st4.putOwn (xs := []) (vs := []) (a := s1.heap.objs.size) (by rw [hsc]; exact hb) ⟨0, (e3.trans' e4).keep' _ _ g2⟩ rfl (not_live st.zlt n2) (nw _ n2) (h01 _ n2) fun s5 g5 st5 => ?_))
  have k5 : s5.heap.get? s.heap.objs.size = some { cls := .type "list", data := .seq ([] : List Value).toArray } := g5.keep _ _ (nw _ n1) ((e2.trans' (e3.trans' e4)).keep' _ _ g1)
  refine assignInOrder_cons (bindName_ (st5.putOwn (xs := []) (vs := []) (a := s.heap.objs.size) (by rw [hsc]; exact ha) ⟨0, k5⟩ rfl (not_live st.zlt n1) (fun w => w.elim (nw _ n1) fun q => hne q) (h01 _ n1) fun s6 g6 st6 => ?_))
  refine assignInOrder_nil (h _ s6 Z _ ?_ ⟨rfl, st6⟩)
  have ga := Gr.of (W := W) e14 z14
  have x5 : ExtG W no s s5 := ga.ext.trans g5 (fun b w => .inl w) (fun _ h => h.elim)
  exact ⟨x5.trans g6 (fun b w => w.elim .inl fun q => .inr (q ▸ n2)) (fun _ h => h.elim), fun b z => z, fun b z => .inl z, fun b w => w.elim (fun w => w.elim .inl fun q => .inr (q ▸ n2)) fun q => .inr (q ▸ n1)⟩
end
end Mine
namespace Mine

def defAt (p : Program) (i : Nat) : DefRec := match p.main.body[i]? with
  | some (.FunctionDef name args body _ _ _ scope _ _ pos) => ⟨name, args, body, scope, pos⟩
  | _ => ⟨Str.empty, ⟨[], [], none, [], [], none, []⟩, [], default, default⟩
abbrev P := PySem.Challenge.pw_wb0028_01
abbrev dEll : DefRec := defAt P 2
abbrev dIter : DefRec := defAt P 4
abbrev dStrip : DefRec := defAt P 5
abbrev dCheck : DefRec := defAt P 6
abbrev dColl : DefRec := defAt P 8
abbrev dGrp : DefRec := defAt P 10

def escGo : Nat → Bool → Tx → List (Nat × Tx)
  | i, esc, [] => if esc then [(i - 1, [92])] else []
  | i, true, x :: t => (i, [92, x]) :: escGo (i + 1) false t
  | i, false, x :: t => if x == 92 then escGo (i + 1) true t else (i, [x]) :: escGo (i + 1) false t
def escPV (l : List (Nat × Tx)) : List PV := l.map fun p => .tup [.int p.1, .str p.2]

section
variable {G : Gc} {n : Nat}
set_option maxHeartbeats 2000000

theorem enumStr {F : Fi} {A : Around} {Z W : Addr → Prop} {σ : Loc} {s : Shared} {x : Str} {c : Tx} {e : Expr} {p pos : Pos} {Q : Value → Shared → Prop} {E : Value → Shared → Prop} (nb : NoB G) (hx : x = ("enumerate" : Str)) (ok : OkA n A)
    (st : St G F Z W σ s) (hk : F.sc.names.lookup x = some .globalImplicit) (h1 : ∀ {Q : Value → Shared → Prop}, (∀ t, Q (.str (mkS c) t) s) → wpAny (model G.prog G.w) A (eval e F.env) Q E s)
    (he : ∀ env pos, backTo pos (starEach [e] env) = [(false, eval e env)])
    (h : ∀ h' t, IsEnum h' (s.heap.objs.size + 1) s.heap.objs.size 0 .none → h'.IsStrIter s.heap.objs.size (strIterType (mkS c)) (mkS c) t 0 → h'.objs.size = s.heap.objs.size + 2 →
      (∀ b o, s.heap.get? b = some o → h'.get? b = some o) → Q (.ref (s.heap.objs.size + 1)) { s with heap := h' }) : wpAny (model G.prog G.w) A (eval (.Call (.Name x p) [e] [] pos) F.env) Q E s := by
  subst hx
  refine wpAny_Call_NameR (evBuiltin (sc := F.sc) hk nb (by decide) boot_enumerate (by decide) (by decide) rfl st ?_)
  refine PyProof.Rows.callWith_type (by rw [he]; rfl) ?_
  rw [he]
  exact Calls.evalArgs_plain (Calls.spliced_cons (h1 fun t => Calls.spliced_nil (call_enumerate_str fun h' a b cc d => h h' t a b cc d)))

theorem spec_iter (h1 : 40 ≤ n) (h2 : n ≤ 999) (nb : NoB G) (c : Tx) : GSpec G n 2 dIter (slots ["addr"] [.str c]) (escPV (escGo 0 false c)) true := by
  intro F Z s hsc ho h0 hZ0 st
  have ok := over_func (n := n) h1 h2 (body := dIter.body) (env := F.env)
  refine GW.cons (GW.wp (assignConst (pv := .int 0) (sc := dIter.scope) hsc st (fun hv => wpAny_Constant_int (hv _ _ fun Z h => by simp [Rep])) rfl (fun _ => rfl) fun s1 z1 g1 st1 => ?_))
  refine GW.cons (GW.wp (assignConst (pv := .bool false) (sc := dIter.scope) hsc st1 (fun {Q} hv => wpAny_Constant_bool (hv _ s1.toks fun Z h => by simp [Rep])) rfl (fun _ => rfl) fun s2 z2 g2 st2 => ?_))
  refine GW.cons (GW.for_ (fun _ => rfl) ?_)
  obtain ⟨va, hva, hra⟩ := st2.vals ("addr" : Str) (.str c) rfl
  simp only [Rep] at hra
  obtain ⟨ta, rfl⟩ := hra
  refine enumStr (x := ("enumerate" : Str)) (c := c) nb rfl ok st2 (by rw [hsc]; rfl) (fun {Q} hq => st2.load hva (by decide) (hq ta)) (fun _ _ => rfl) fun h' t he hit hsz hk => ?_
  have hsize : s2.heap.objs.size = s.heap.objs.size := z2.trans z1
  rw [hsize] at he hit hsz ⊢
  let it := s.heap.objs.size
  let en := s.heap.objs.size + 1
  have D : ∀ A : Around, A.handled = none → Draws G.prog G.w A it [it] (mkS c).cps.size (fun i v => ∃ cc u, (mkS c).cps[i]? = some cc ∧ v = .str ⟨#[cc]⟩ u) (fun i h => h.IsStrIter it (strIterType (mkS c)) (mkS c) t i) := fun A hA => by
    cases ha : (mkS c).cps.all (· < 128)
    · simp only [strIterType, ha]; exact Draws.strWide hA it (mkS c) t
    · simp only [strIterType, ha]; exact Draws.strAscii hA it (mkS c) t
  have e3 : Ext0 s2 { s2 with heap := h' } := Ext0.heap (tk := s2.toks) hk
  have st3 := st2.ext e3 (ZG.same st2.zlt e3)
  have dsz : ∀ b, s.heap.objs.size ≤ b → G.base.get? b = none := fun b hb => by
    cases e : G.base.get? b with
    | none => rfl
    | some o => exact absurd (Heap.lt_size (st.base b o e)) (Nat.not_lt.mpr hb)
  have hLlt : F.L < s.heap.objs.size := live_lt (st.wlt F.L rfl)
  have hZlt : ∀ b, Z b → b < s.heap.objs.size := fun b z => live_lt (st.zlt b z)
  refine wpAny_pyIter_enum he (GC.induct (fun k n' s₀ s' => ∃ (rest : Tx) (i : Nat) (esc : Bool) (pre : List PV), k = rest.length ∧ i + rest.length = c.length ∧ c.drop i = rest ∧ n' = (escGo i esc rest).length ∧
      escPV (escGo 0 false c) = pre ++ escPV (escGo i esc rest) ∧ St G F Z (fun b => b = F.L) [("escape", .val (.bool esc)), ("pos", .val (.int ((i - 1 : Nat) : Int))), ("addr", .val (.str c))] s' ∧
      (∃ old, IsEnum s'.heap en it i old) ∧ s'.heap.IsStrIter it (strIterType (mkS c)) (mkS c) t i ∧ ExtG (wr1 2 (fun b => b = F.L) s) no s₀ s') ?_ ⟨c, 0, false, [], rfl, Nat.zero_add _, rfl, ?_, rfl, st3.weak (subL.out ⟨rfl, rfl, rfl, trivial⟩), ⟨_, he⟩, hit, ?_⟩)
  · rintro k n' s₀ s' ⟨rest, i, esc, pre, rfl, hil, hdr, rfl, hpre, stl, ⟨old, hel⟩, hitl, hext⟩ ih
    have hwb : ∀ b, wr1 2 (fun b => b = F.L) s b → b = F.L ∨ b = en ∨ b = it := fun b h => by
      rcases h with h | ⟨ha, hb⟩
      · exact .inl h
      · rcases Nat.lt_or_ge b en with q | q
        · exact .inr (.inr (Nat.le_antisymm (Nat.lt_succ_iff.mp q) ha))
        · exact .inr (.inl (Nat.le_antisymm (Nat.lt_succ_iff.mp hb) q))
    have hwe : ∀ b, (b = en ∨ b = it) → wr1 2 (fun b => b = F.L) s b := fun b h => .inr (h.elim (fun h => h ▸ ⟨Nat.le_succ _, Nat.lt_succ_self _⟩) fun h => h ▸ ⟨Nat.le_refl _, Nat.lt_succ_of_lt (Nat.lt_succ_self _)⟩)
    have hge : ∀ b, (b = en ∨ b = it) → s.heap.objs.size ≤ b := fun b h => h.elim (fun h => h ▸ Nat.le_succ _) fun h => h ▸ Nat.le_refl _
    have hL2 : ∀ b, b = F.L → ¬ (b = en ∨ b = it) := fun b e q => absurd (hge b q) (Nat.not_le.mpr (e ▸ hLlt))
    have hZ2 : ∀ b, Z b → ¬ (b = en ∨ b = it) := fun b z q => absurd (hge b q) (Nat.not_le.mpr (hZlt b z))
    have hZw : ∀ b, Z b → ¬ wr1 2 (fun b => b = F.L) s b := fun b z w => (hwb b w).elim (fun q => st.disj b z q) (hZ2 b z)
    have h02 : ∀ b, (b = en ∨ b = it) → F.h0.get? b = none := fun b q => by rw [h0]; exact dsz b (hge b q)
    have hne : en ≠ it := Nat.succ_ne_self _
    have lw : ∀ (s5 : Shared) (σ : Loc), St G F Z (fun b => b = F.L) σ s5 → (∃ o, s5.heap.get? en = some o) → (∃ o, s5.heap.get? it = some o) → Liv (wr1 2 (fun b => b = F.L) s) s5.heap := fun s5 σ st5 q1 q2 b w => by
      rcases hwb b w with h | h | h
      · exact st5.wlt b h
      · exact h ▸ q1
      · exact h ▸ q2
    have back : ∀ {σ : Loc} {s5 : Shared} {Z5 : Addr → Prop}, allScal σ = true → St G F Z5 (fun b => b = F.L) σ s5 → (∀ b, Z b → Z5 b) → St G F Z (fun b => b = F.L) σ s5 := fun ha st5 hz => st5.narrow hz (fun b z => hZ0 ▸ z) ha
    refine GC.for_ fun fr hw => ?_
    have ok1 := fun (c : Code) (hc : c.weight = 0) (hu : c.cUnits = 0) => over_one h1 h2 hw (c := c) hc hu
    have ok1h := fun (c : Code) (hc : c.weight = 0) (hu : c.cUnits = 0) => (show ((Amax n).in1.over c [fr]).in1.handled = none from (ok1 c hc hu).1)
    cases rest with
    | nil =>
      have hi : i = (mkS c).cps.size := by simp at hil; simp [mkS, hil]
      have okE := fun (c : Code) (hc : c.weight = 0) (hu : c.cUnits = 0) => (show ((Amax n).in1.over c [fr]).handled = none from (ok1 c hc hu).1)
      refine enum_str_end (okE _ rfl rfl) hel hitl (by rw [hi]; exact Array.getElem?_eq_none (Nat.le_refl _)) fun h'' hb hitL => GC.block fun fr' hw' => GW.nil ?_
      have e4 : ExtG (fun b => b = en ∨ b = it) no s' { s' with heap := h'' } := ⟨fun b o nb e => hb b o (fun q => nb (.inr q)) e, Nat.le_refl _, fun _ _ _ e => e, rfl, fun x => x⟩
      have z4 : ZG Z s' Z { s' with heap := h'' } := ⟨fun _ z => z, fun _ z => .inl z, fun b z => let ⟨o, e⟩ := stl.zlt b z; ⟨o, e4.keep b o (hZ2 b z) e⟩⟩
      have st4 := stl.step e4 z4 hL2 hZ2 h02 (noTrue ho)
      have x4 : ExtG (wr1 2 (fun b => b = F.L) s) no s₀ { s' with heap := h'' } := hext.trans e4 (fun b w => .inl (hwe b w)) (fun _ h => h.elim)
      refine GW.cons (GW.if_ ((EvT.val (x := .bool esc) (Ev.nm rfl) rfl (fun _ h => by cases h) (fun _ h => by cases h) (fun _ => rfl)).run F _ Z _ _ _ _ hsc ok st4 fun s5 Z5 e5 z5 => ?_))
      have st5 := back rfl (st4.ext e5 z5) z5.sub
      have x5 : ExtG (wr1 2 (fun b => b = F.L) s) no s₀ s5 := x4.trans e5 (fun _ h => h.elim) (fun _ h => h.elim)
      have w5 := lw s5 _ st5 ⟨_, e5.keep' _ _ (hb en _ hne hel)⟩ (let ⟨o, q⟩ := hitL; ⟨o, e5.keep' _ _ q⟩)
      cases esc with
      | false =>
        rw [if_neg Bool.false_ne_true]
        exact GW.nil (GW.nil ⟨fun v q => (by cases q), rfl, rfl, x5⟩)
      | true =>
        rw [if_pos rfl]
        refine GW.cons (GW.exprYield (n := 0) rfl rfl st5.inter (by rw [show F.env.scope = F.sc from rfl, hsc]; rfl) ?_)
        refine (Ev.mkT (xs := [.int ((i - 1 : Nat) : Int), .str [92]]) (EvL.cons (Ev.nm rfl) (EvL.cons (Ev.cStr rfl) EvL.nil (fun _ => rfl)) (fun _ => rfl)) (by simp)).run F _ Z _ s5 _ _ hsc ok st5 fun v s6 Z6 e6 z6 r6 => fun kap hkap => ?_
        have st6 := back rfl (st5.ext e6 z6) z6.sub
        refine YP.intro x5 w5 e6 z6 hZw (cutLast (tl := []) hpre) r6 fun _ s'' hkeep bs'' => hkap s'' ?_
        exact GW.nil (GW.nil ⟨fun v q => (by cases q), rfl, rfl, ExtG.refl _ _ _⟩)
    | cons y t =>
      have hilt : i < c.length := by simp at hil; omega
      have hyc : c[i]? = some y := by
        have := congrArg List.head? hdr
        simpa [List.head?_drop] using this
      have hdt : c.drop (i + 1) = t := by rw [← List.drop_drop, hdr]; rfl
      have hef : en ∉ [it] := fun h => hne (List.mem_singleton.mp h)
      refine wpAny_pyNext_enum_itemD (D _ (ok1h _ rfl rfl)) hel hitl (by simpa [mkS] using hilt) hne hef fun xv h'' tk hP hout hit2 hT hsz2 hk2 => ?_
      obtain ⟨cc, u, hcc, rfl⟩ := hP
      have hcc : cc = y := by
        have : c[i]? = some cc := by simpa [mkS] using hcc
        rw [hyc] at this; cases this; rfl
      subst hcc
      refine wpAny_letOwnedTupleGo_enum hout fun h3 he3 hs3 => ?_
      have hTe : s'.heap.objs.size ≠ en := Nat.ne_of_gt (Heap.lt_size hel)
      have hTi : s'.heap.objs.size ≠ it := by obtain ⟨o, q, _⟩ := hitl; exact Nat.ne_of_gt (Heap.lt_size q)
      have e3' : ExtG (fun b => b = en ∨ b = it) no s' { s' with heap := h3, toks := tk + 1 } := ⟨fun b o nb e => (hs3.2 b fun q => nb (.inl q)).trans (hk2 b o (fun q => nb (.inl q)) (fun q => nb (.inr q)) e), Nat.le_refl _, fun _ _ _ e => e, rfl, fun x => x⟩
      have hT3 : h3.get? s'.heap.objs.size = some { cls := .type "tuple", data := .seq #[.int i tk, .str ⟨#[cc]⟩ u] } := (hs3.2 _ hTe).trans hT
      have hi3 : h3.IsStrIter it (strIterType (mkS c)) (mkS c) ta (i + 1) ∨ True := .inr trivial
      obtain ⟨oi, hoi, hoi'⟩ := hit2
      have hoi3 : h3.get? it = some oi := (hs3.2 it (Ne.symm hne)).trans hoi
      have zt : ZG Z s' (fun b => Z b ∨ b = s'.heap.objs.size) { s' with heap := h3, toks := tk + 1 } := ⟨fun _ z => .inl z, fun b z => z.elim .inl fun q => .inr (q ▸ none_size _), fun b z => z.elim (fun z => let ⟨o, e⟩ := stl.zlt b z; ⟨o, e3'.keep b o (hZ2 b z) e⟩) fun q => ⟨_, q ▸ hT3⟩⟩
      have st3 := stl.step e3' zt hL2 hZ2 h02 (noTrue ho)
      have okA := fun (c : Code) (hc : c.weight = 0) (hu : c.cUnits = 0) => (show ((Amax n).in1.over c [fr]).handled = none from (ok1 c hc hu).1)
      refine (AsV.tup (sc := dIter.scope) (xs := [.int i, .str [cc]]) (AsL.cons (AsV.name (.inl rfl)) (AsL.cons (AsV.name (.inl rfl)) AsL.nil)) rfl (fun _ => rfl)).run F _ (fun b => Z b ∨ b = s'.heap.objs.size) _ _ (.ref s'.heap.objs.size) _ _ hsc ho (by exact okA _ rfl rfl) st3 ?_ fun s4 g4 st4 => ?_
      · simp only [Rep, Reps]
        exact ⟨_, [.int i tk, .str ⟨#[cc]⟩ u], rfl, .inr rfl, ⟨_, hT3, rfl, _, rfl⟩, _, _, rfl, ⟨tk, rfl⟩, _, _, rfl, ⟨u, rfl⟩, rfl⟩
      have st5 := back (σ := [("ch", .val (.str [cc])), ("pos", .val (.int i)), ("escape", .val (.bool esc)), ("addr", .val (.str c))]) rfl (st4.weak (subL.out ⟨rfl, rfl, rfl, rfl, trivial⟩)) fun _ z => .inl z
      have en4 : s4.heap.get? en = h3.get? en := by rw [he3]; exact g4.ext.keep en _ (fun q => hL2 _ q (.inl rfl)) he3
      have it4 : s4.heap.get? it = some oi := g4.ext.keep it _ (fun q => hL2 _ q (.inr rfl)) hoi3
      have he4 : IsEnum s4.heap en it ((i + 1 : Nat) : Int) (.str ⟨#[cc]⟩ u) := en4.trans (by simpa using he3)
      have x4 : ExtG (wr1 2 (fun b => b = F.L) s) no s₀ s4 := (hext.trans e3' (fun b w => .inl (hwe b w)) (fun _ h => h.elim)).trans g4.ext (fun b w => .inl (.inl w)) (fun _ h => h.elim)
      -- on to the next turn
      have next : ∀ (esc' : Bool) (σ' : Loc) (pre' : List PV) (s₀' s5 : Shared), escPV (escGo 0 false c) = pre' ++ escPV (escGo (i + 1) esc' t) → St G F Z (fun b => b = F.L) σ' s5 → subL [("escape", .val (.bool esc')), ("pos", .val (.int ((i + 1 - 1 : Nat) : Int))), ("addr", .val (.str c))] σ' →
          s5.heap.get? en = s4.heap.get? en → s5.heap.get? it = s4.heap.get? it → ExtG (wr1 2 (fun b => b = F.L) s) no s₀' s5 → _ := fun esc' σ' pre' s₀' s5 hp' st' hsub q1 q2 x' =>
        ih t.length (escGo (i + 1) esc' t).length s₀' s5 (by simp) ⟨t, i + 1, esc', pre', rfl, by simp at hil; omega, hdt, rfl, hp', st'.weak hsub.out, ⟨_, q1.trans he4⟩, ⟨oi, q2.trans it4, hoi'⟩, x'⟩
      refine GW.cons (GW.if_ ((EvT.val (x := .bool esc) (Ev.nm rfl) rfl (fun _ h => by cases h) (fun _ h => by cases h) (fun _ => rfl)).run F _ Z _ _ _ _ hsc (ok1 _ rfl rfl) st5 fun s6 Z6 e6 z6 => ?_))
      have st6 := back rfl (st5.ext e6 z6) z6.sub
      have x6 : ExtG (wr1 2 (fun b => b = F.L) s) no s₀ s6 := x4.trans e6 (fun _ h => h.elim) (fun _ h => h.elim)
      have en6 : s6.heap.get? en = s4.heap.get? en := by rw [he4]; exact e6.keep' _ _ he4
      have it6 : s6.heap.get? it = s4.heap.get? it := by rw [it4]; exact e6.keep' _ _ it4
      have w6 := lw s6 _ st6 ⟨_, en6.trans he4⟩ ⟨_, it6.trans it4⟩
      cases esc with
      | true =>
        rw [if_pos rfl]
        refine GW.cons (GW.exprYield (n := (escGo (i + 1) false t).length) (hw.split rfl) (hw.guard rfl) st6.inter (by rw [show F.env.scope = F.sc from rfl, hsc]; rfl) ?_)
        refine (Ev.mkT (xs := [.int i, .str [92, cc]]) (EvL.cons (Ev.nm rfl) (EvL.cons (Ev.bin (Ev.cStr (c := [92]) rfl) (Ev.nm rfl) (BinV.addS (by simp))) EvL.nil (fun _ => rfl)) (fun _ => rfl)) (by simp)).run F _ Z _ s6 _ _ hsc (by exact ok1 _ rfl rfl) st6 fun v s7 Z7 e7 z7 r7 => fun kap hkap => ?_
        have st7 := back rfl (st6.ext e7 z7) z7.sub
        have hp7 : escPV (escGo 0 false c) = pre ++ (.tup [.int i, .str [92, cc]]) :: escPV (escGo (i + 1) false t) := hpre
        have hlen7 : (escPV (escGo (i + 1) false t)).length = (escGo (i + 1) false t).length := by simp [escPV]
        refine YP.intro x6 w6 e7 z7 hZw (by rw [← hlen7]; exact cutLast hp7) r7 fun _ s'' hkeep bs'' => hkap s'' ?_
        have stw := st7.wake ho h0 (fun b o h e => hkeep b o (h.imp id fun w => .inl w) e) bs''
        have en7 : s7.heap.get? en = s4.heap.get? en := by rw [he4]; exact e7.keep' _ _ (en6.trans he4)
        have it7 : s7.heap.get? it = s4.heap.get? it := by rw [it4]; exact e7.keep' _ _ (it6.trans it4)
        have enw : s''.heap.get? en = s4.heap.get? en := by rw [he4]; exact hkeep _ _ (.inr (hwe _ (.inl rfl))) (en7.trans he4)
        have itw : s''.heap.get? it = s4.heap.get? it := by rw [it4]; exact hkeep _ _ (.inr (hwe _ (.inr rfl))) (it7.trans it4)
        refine GW.cons (GW.wp (assignConst (pv := .bool false) (sc := dIter.scope) hsc stw (fun {Q} hv => wpAny_Constant_bool (hv _ s''.toks fun Z h => by simp [Rep])) rfl (fun _ => rfl) fun s8 z8 g8 st8 => ?_))
        refine GW.nil (GW.nil (next false _ (pre ++ [.tup [.int i, .str [92, cc]]]) s'' s8 (by rw [hp7]; simp) st8 ⟨rfl, rfl, rfl, trivial⟩ ?_ ?_ (g8.ext.wide (fun b w => .inl (.inl w)) (fun _ h => .inl h))))
        · exact (g8.ext.keep en _ (fun q => hL2 _ q (.inl rfl)) (enw.trans he4)).trans he4.symm
        · exact (g8.ext.keep it _ (fun q => hL2 _ q (.inr rfl)) (itw.trans it4)).trans it4.symm
      | false =>
        rw [if_neg Bool.false_ne_true]
        refine GW.cons (GW.if_ ((EvT.cmp (a := .str [cc]) (b := .str [92]) (Ev.nm rfl) (Ev.cStr rfl) CmpV.eqS rfl).run F _ Z _ s6 _ _ hsc (by exact ok1 _ rfl rfl) st6 fun s7 Z7 e7 z7 => ?_))
        have st7 := back rfl (st6.ext e7 z7) z7.sub
        have x7 : ExtG (wr1 2 (fun b => b = F.L) s) no s₀ s7 := x6.trans e7 (fun _ h => h.elim) (fun _ h => h.elim)
        have en7 : s7.heap.get? en = s4.heap.get? en := by rw [he4]; exact e7.keep' _ _ (en6.trans he4)
        have it7 : s7.heap.get? it = s4.heap.get? it := by rw [it4]; exact e7.keep' _ _ (it6.trans it4)
        have w7 := lw s7 _ st7 ⟨_, en7.trans he4⟩ ⟨_, it7.trans it4⟩
        have hcmp : (([cc] : Tx) == [92]) = (cc == 92) := by rw [Bool.eq_iff_iff]; simp
        rw [hcmp]
        cases hq : cc == 92 with
        | true =>
          have hp7 : escPV (escGo 0 false c) = pre ++ escPV (escGo (i + 1) true t) := by rw [hpre]; simp only [escGo, hq, if_true]
          have hn7 : (escGo i false (cc :: t)).length = (escGo (i + 1) true t).length := by simp only [escGo, hq, if_true]
          rw [if_pos rfl, hn7]
          refine GW.cons (GW.wp (assignConst (pv := .bool true) (sc := dIter.scope) hsc st7 (fun {Q} hv => wpAny_Constant_bool (hv _ s7.toks fun Z h => by simp [Rep])) rfl (fun _ => rfl) fun s8 z8 g8 st8 => ?_))
          refine GW.nil (GW.nil (GW.nil (next true _ pre s₀ s8 hp7 st8 ⟨rfl, rfl, rfl, trivial⟩ ?_ ?_ (x7.trans g8.ext (fun b w => .inl (.inl w)) (fun _ h => h.elim)))))
          · exact (g8.ext.keep en _ (fun q => hL2 _ q (.inl rfl)) (en7.trans he4)).trans he4.symm
          · exact (g8.ext.keep it _ (fun q => hL2 _ q (.inr rfl)) (it7.trans it4)).trans it4.symm
        | false =>
          have hp7 : escPV (escGo 0 false c) = pre ++ (.tup [.int i, .str [cc]]) :: escPV (escGo (i + 1) false t) := by rw [hpre]; simp [escGo, hq, escPV]
          have hn7 : (escGo i false (cc :: t)).length = (escGo (i + 1) false t).length + 1 := by simp [escGo, hq]
          have hlen7 : (escPV (escGo (i + 1) false t)).length = (escGo (i + 1) false t).length := by simp [escPV]
          rw [if_neg Bool.false_ne_true, hn7]
          refine GW.cons (GW.exprYield (n := (escGo (i + 1) false t).length) (hw.split rfl) (hw.guard rfl) st7.inter (by rw [show F.env.scope = F.sc from rfl, hsc]; rfl) ?_)
          refine (Ev.mkT (xs := [.int i, .str [cc]]) (EvL.cons (Ev.nm rfl) (EvL.cons (Ev.nm rfl) EvL.nil (fun _ => rfl)) (fun _ => rfl)) (by simp)).run F _ Z _ s7 _ _ hsc (by exact ok1 _ rfl rfl) st7 fun v s8 Z8 e8 z8 r8 => fun kap hkap => ?_
          have st8 := back rfl (st7.ext e8 z8) z8.sub
          refine YP.intro x7 w7 e8 z8 hZw (by rw [← hlen7]; exact cutLast hp7) r8 fun _ s'' hkeep bs'' => hkap s'' ?_
          have stw := st8.wake ho h0 (fun b o h e => hkeep b o (h.imp id fun w => .inl w) e) bs''
          have en8 : s8.heap.get? en = s4.heap.get? en := by rw [he4]; exact e8.keep' _ _ (en7.trans he4)
          have it8 : s8.heap.get? it = s4.heap.get? it := by rw [it4]; exact e8.keep' _ _ (it7.trans it4)
          have enw : s''.heap.get? en = s4.heap.get? en := by rw [he4]; exact hkeep _ _ (.inr (hwe _ (.inl rfl))) (en8.trans he4)
          have itw : s''.heap.get? it = s4.heap.get? it := by rw [it4]; exact hkeep _ _ (.inr (hwe _ (.inr rfl))) (it8.trans it4)
          exact GW.nil (GW.nil (GW.nil (next false _ (pre ++ [.tup [.int i, .str [cc]]]) s'' s'' (by rw [hp7]; simp) stw ⟨rfl, rfl, rfl, trivial⟩ enw itw (ExtG.refl _ _ _))))
  · simp [escPV]
  · exact (((g1.trans g2).ext.wide (fun b w => .inl (.inl w)) (fun _ h => .inl h)).trans e3 (fun _ h => h.elim) (fun _ h => h.elim))

/-- what the intervals are -/
inductive Grp : Option Int → List Int → List Int → Bool → Prop
  | nil {l : Option Int} : Grp l [] [] true
  | stop {l : Option Int} {t : List Int} : Grp l (127 :: t) [] true
  | inf {l : Int} {t : List Int} {N : Nat} : Grp (some l) (0 :: t) (List.replicate (N + 1) l) false
  | cons {l : Option Int} {x : Int} {t xs : List Int} {e : Bool} : x ≠ 127 → x ≠ 0 → Grp (some x) t xs e → Grp l (x :: t) (x :: xs) e
def optP : Option Int → PV
  | none => .none
  | some i => .int i
theorem optP_scal (l : Option Int) : scal (optP l) = true := by cases l <;> rfl

theorem assignName {F : Fi} {Z W : Addr → Prop} {σ : Loc} {s : Shared} {sc : Scope} {A : Around} {x y : Str} {pv : PV} {p q pos : Pos} {Q : Flow → Shared → Prop} {E : Value → Shared → Prop} (hsc : F.sc = sc) (st : St G F Z W σ s)
    (hy : σ.lookup y = some (.val pv)) (hp : scal pv = true) (hd : (y == ("__debug__" : Str)) = false) (hk : sc.names.lookup x = some .local) (hs : ∀ env, swapsWith (.Name y q) (some (.Name x p)) pos.line env = pure false)
    (h : ∀ s', s'.heap.objs.size = s.heap.objs.size → Gr Z W s Z W s' → St G F Z W ((x, .val pv) :: σ) s' → Q .next s') : wpAny (model G.prog G.w) A (exec (.Assign [.Name x p] (.Name y q) pos) F.env) Q E s := by
  obtain ⟨v, hv, hr⟩ := st.vals y pv hy
  exact assignConst hsc st (fun {Q} hq => st.load hv hd (hq v s.toks fun Z h => hr.scal hp)) hk hs h

theorem spec_grp (h1 : 40 ≤ n) (h2 : n ≤ 999) (hcm : valOf G.p ("CHAR_MAX" : Str) = some (.int 127)) (gs : List Int) (xs : List Int) (ends : Bool) (hl : gs.length ≤ 1000000) (hg : Grp none gs xs ends) : GSpec G n 1 dGrp (slots ["grouping"] [.list (its gs)]) (its xs) ends := by
  intro F Z s hsc ho h0 hZ0 st
  have ok := over_func (n := n) h1 h2 (body := dGrp.body) (env := F.env)
  rw [show (its xs).length = xs.length from by simp [its]]
  refine GW.cons (GW.wp (assignConst (pv := .none) (sc := dGrp.scope) hsc st (fun {Q} hv => wpAny_Constant_none (hv _ s.toks fun Z h => by simp [Rep])) rfl (fun _ => rfl) fun s1 z1 g1 st1 => ?_))
  refine GW.cons (GW.for_ (fun _ => rfl) ?_)
  obtain ⟨va, hva, hra⟩ := st1.vals ("grouping" : Str) (.list (its gs)) rfl
  simp only [Rep] at hra
  obtain ⟨la, vs, rfl, hza, hLa, hrs⟩ := hra
  refine st1.load hva (by decide) (wpAny_pyIter_list hLa ?_)
  rw [z1]
  let it := s.heap.objs.size
  have hvl : vs.length = gs.length := by rw [hrs.length]; simp [its]
  have hvi : ∀ (i : Nat) (x : Int), gs[i]? = some x → ∃ t : Tok, vs[i]? = some (Value.int x t) := fun i x hx => by
    obtain ⟨v, h3, h4⟩ := hrs.get (i := i) (x := PV.int x) (by simp only [its, List.getElem?_map, hx, Option.map_some])
    simp only [Rep] at h4
    obtain ⟨t, rfl⟩ := h4
    exact ⟨t, h3⟩
  have e2 := Ext0.push s1 { cls := .type "list_iterator", data := .fields #[.ref la, .int 0 0] } s1.toks
  have st2 := st1.ext e2 (ZG.same st1.zlt e2)
  have dsz : ∀ b, s.heap.objs.size ≤ b → G.base.get? b = none := fun b hb => by
    cases e : G.base.get? b with
    | none => rfl
    | some o => exact absurd (Heap.lt_size (st.base b o e)) (Nat.not_lt.mpr hb)
  have hLlt : F.L < s.heap.objs.size := live_lt (st.wlt F.L rfl)
  have hZlt : ∀ b, Z b → b < s.heap.objs.size := fun b z => live_lt (st.zlt b z)
  have hL2 : ∀ b, b = F.L → ¬ (b = it) := fun b e q => absurd hLlt (Nat.not_lt.mpr (Nat.le_of_eq (q.symm.trans e)))
  have hZ2 : ∀ b, Z b → ¬ (b = it) := fun b z q => absurd (hZlt b z) (Nat.not_lt.mpr (Nat.le_of_eq q.symm))
  have hla : la ≠ it := hZ2 la hza
  have h02 : ∀ b, (b = it) → F.h0.get? b = none := fun b q => by rw [h0]; exact dsz b (Nat.le_of_eq q.symm)
  -- the place behind the iterator is nobody's: only the iterator's own place is asked for
  refine GC.induct (fun k n' s₀ s' => ∃ (rest cur : List Int) (i : Nat) (last : Option Int) (pre : List Int), k = rest.length ∧ i + rest.length = gs.length ∧ gs.drop i = rest ∧ n' = cur.length ∧ Grp last rest cur ends ∧ xs = pre ++ cur ∧
      St G F Z (fun b => b = F.L) [("last_interval", .val (optP last)), ("grouping", .val (.list (its gs)))] s' ∧ s'.heap.IsListIter it la i ∧ s'.heap.IsList la vs.toArray ∧ ExtG (wr1 1 (fun b => b = F.L) s) no s₀ s') ?_
      ⟨gs, xs, 0, none, [], rfl, Nat.zero_add _, rfl, rfl, hg, rfl, st2.weak (subL.out ⟨rfl, rfl, trivial⟩), ⟨_, by rw [show it = s1.heap.objs.size from z1.symm]; exact Heap.get?_push_size _ rfl, rfl, rfl⟩, hLa.push _, ?_⟩
  · rintro k n' s₀ s' ⟨rest, cur, i, last, pre, rfl, hil, hdr, rfl, hgr, hpre, stl, hitl, hLl, hext⟩ ih
    have hwb : ∀ b, wr1 1 (fun b => b = F.L) s b → b = F.L ∨ b = it := fun b h => h.imp id fun h => Nat.le_antisymm (Nat.lt_succ_iff.mp h.2) h.1
    have hwe : ∀ b, b = it → wr1 1 (fun b => b = F.L) s b := fun b h => .inr (h ▸ ⟨Nat.le_refl _, Nat.lt_succ_self _⟩)
    have hZw : ∀ b, Z b → ¬ wr1 1 (fun b => b = F.L) s b := fun b z w => (hwb b w).elim (fun q => st.disj b z q) (hZ2 b z)
    have lw : ∀ (s5 : Shared) (σ : Loc), St G F Z (fun b => b = F.L) σ s5 → (∃ o, s5.heap.get? it = some o) → Liv (wr1 1 (fun b => b = F.L) s) s5.heap := fun s5 σ st5 q1 b w => by
      rcases hwb b w with h | h
      · exact st5.wlt b h
      · exact h ▸ q1
    have nz : ∀ {σ : Loc} {s5 s6 : Shared} {Z6 : Addr → Prop}, St G F Z (fun b => b = F.L) σ s5 → Ext0 s5 s6 → St G F Z (fun b => b = F.L) σ s6 := fun st5 e6 => st5.ext e6 (ZG.same st5.zlt e6)
    refine GC.for_ fun fr hw => ?_
    have ok1 := fun (c : Code) (hc : c.weight = 0) (hu : c.cUnits = 0) => over_one h1 h2 hw (c := c) hc hu
    have okA := fun (c : Code) (hc : c.weight = 0) (hu : c.cUnits = 0) => (show ((Amax n).in1.over c [fr]).handled = none from (ok1 c hc hu).1)
    cases rest with
    | nil =>
      cases hgr
      have hi : i = vs.length := by simp at hil; omega
      refine wpAny_pyNext_list_end (okA _ rfl rfl) hitl hLl (by rw [hi]; simp) fun h'' hb => GC.block fun fr' hw' => GW.nil ?_
      have e4 : ExtG (fun b => b = it) no s' { s' with heap := h'' } := ⟨fun b o nb e => hb b o nb e, Nat.le_refl _, fun _ _ _ e => e, rfl, fun x => x⟩
      exact GW.nil ⟨fun v q => (by cases q), rfl, rfl, hext.trans e4 (fun b w => .inl (hwe b w)) (fun _ h => h.elim)⟩
    | cons y t =>
      have hilt : i < gs.length := by simp at hil; omega
      have hyc : gs[i]? = some y := by
        have := congrArg List.head? hdr
        simpa [List.head?_drop] using this
      have hdt : gs.drop (i + 1) = t := by rw [← List.drop_drop, hdr]; rfl
      obtain ⟨ty, hvy⟩ := hvi i y hyc
      refine wpAny_pyNext_list_item hitl hLl (x := .int y ty) (by simpa using hvy) fun h'' hit2 hs2 => ?_
      refine wpAny_of_eq (a := ()) rfl ?_
      have e3' : ExtG (fun b => b = it) no s' { s' with heap := h'' } := ⟨fun b o nb e => (hs2.2 b nb).trans e, Nat.le_refl _, fun _ _ _ e => e, rfl, fun x => x⟩
      have z3 : ZG Z s' Z { s' with heap := h'' } := ⟨fun _ z => z, fun _ z => .inl z, fun b z => let ⟨o, e⟩ := stl.zlt b z; ⟨o, e3'.keep b o (hZ2 b z) e⟩⟩
      have st3 := stl.step e3' z3 hL2 hZ2 h02 (noTrue ho)
      refine (AsV.name (sc := dGrp.scope) (own := true) (pv := .int y) (.inl rfl)).run F _ Z _ _ (.int y ty) _ _ hsc ho (by exact okA _ rfl rfl) st3 (by simp [Rep]) fun s4 g4 st4 => ?_
      have st5 := st4.weak (τ := [("interval", .val (.int y)), ("last_interval", .val (optP last)), ("grouping", .val (.list (its gs)))]) (subL.out ⟨rfl, rfl, rfl, trivial⟩)
      have x4 : ExtG (wr1 1 (fun b => b = F.L) s) no s₀ s4 := (hext.trans e3' (fun b w => .inl (hwe b w)) (fun _ h => h.elim)).trans g4.ext (fun b w => .inl (.inl w)) (fun _ h => h.elim)
      have hL3 : (⟨h'', s'.gens, s'.drawn, s'.toks, s'.os⟩ : Shared).heap.IsList la vs.toArray := hLl.at fun o e => e3'.keep la o hla e
      have hL4 : s4.heap.IsList la vs.toArray := hL3.at fun o e => g4.ext.keep la o (st3.disj la hza) e
      obtain ⟨oi, hoi, hoi'⟩ := hit2
      have it4 : s4.heap.get? it = some oi := g4.ext.keep it _ (fun q => hL2 _ q rfl) hoi
      refine GW.cons (GW.if_ ((EvT.cmp (a := .int y) (b := .int 127) (Ev.nm rfl) (Ev.const rfl (by decide) hcm fun v hv => reads_int hv) CmpV.eqI rfl).run F _ Z _ _ _ _ hsc (by exact ok1 _ rfl rfl) st5 fun s6 Z6 e6 z6 => ?_))
      have st6 := nz (Z6 := Z) st5 e6
      have x6 : ExtG (wr1 1 (fun b => b = F.L) s) no s₀ s6 := x4.trans e6 (fun _ h => h.elim) (fun _ h => h.elim)
      have it6 : s6.heap.get? it = some oi := e6.keep' _ _ it4
      have hL6 : s6.heap.IsList la vs.toArray := hL4.at fun o e => e6.keep' _ _ e
      cases hgr with
      | stop =>
        rw [if_pos (by decide)]
        exact GW.cons (GW.wp (wpAny_Return_none ⟨fun v q => (by cases q; rfl), rfl, rfl, x6⟩))
      | @inf l _ N =>
        rw [if_neg (by decide)]
        refine GW.nil (GW.cons (GW.if_ ((EvT.cmp (a := .int 0) (b := .int 0) (Ev.nm rfl) Ev.cInt CmpV.eqI rfl).run F _ Z _ s6 _ _ hsc (by exact ok1 _ rfl rfl) st6 fun s7 Z7 e7 z7 => ?_)))
        have st7 := nz (Z6 := Z) st6 e7
        have x7 : ExtG (wr1 1 (fun b => b = F.L) s) no s₀ s7 := x6.trans e7 (fun _ h => h.elim) (fun _ h => h.elim)
        have it7 : s7.heap.get? it = some oi := e7.keep' _ _ it6
        rw [if_pos (by decide)]
        refine GW.cons (GW.if_ ((EvT.cmp (a := .int l) (b := .none) (Ev.nm rfl) Ev.cNone (CmpV.is rfl) rfl).run F _ Z _ s7 _ _ hsc (by exact ok1 _ rfl rfl) st7 fun s8 Z8 e8 z8 => ?_))
        have st8 := nz (Z6 := Z) st7 e8
        have x8 : ExtG (wr1 1 (fun b => b = F.L) s) no s₀ s8 := x7.trans e8 (fun _ h => h.elim) (fun _ h => h.elim)
        have it8 : s8.heap.get? it = some oi := e8.keep' _ _ it7
        rw [if_neg (show ¬ pis (.int l) .none = true from Bool.false_ne_true)]
        refine GW.nil (GW.cons (GW.while_ ?_))
        refine GC.induct (fun k n' s₀ s' => k = n' ∧ ∃ (m : Nat) (pre' : List Int), n' = m + 1 ∧ xs = pre' ++ List.replicate (m + 1) l ∧ St G F Z (fun b => b = F.L) [("last_interval", .val (.int l)), ("grouping", .val (.list (its gs)))] s' ∧
          (∃ o, s'.heap.get? it = some o) ∧ ExtG (wr1 1 (fun b => b = F.L) s) no s₀ s') ?_ ⟨rfl, N, pre, by simp, hpre, st8.weak (subL.out ⟨rfl, rfl, trivial⟩), ⟨oi, it8⟩, x8⟩
        rintro k n' s₀ s' ⟨rfl, m, pre', rfl, hp', st', itl, hx'⟩ ih2
        refine GC.while_ fun fr' hw' => ?_
        have ok2 := fun (c : Code) (hc : c.weight = 0) (hu : c.cUnits = 0) => over_two h1 h2 hw hw' rfl rfl (c := c) hc hu
        refine (EvT.val (x := .bool true) Ev.cBool rfl (fun _ h => by cases h) (fun _ h => by cases h) (fun _ => rfl)).run F _ Z _ s' _ _ hsc (by exact ok2 _ rfl rfl) st' fun s9 Z9 e9 z9 => ⟨rfl, ?_⟩
        have st9 := nz (Z6 := Z) st' e9
        have x9 : ExtG (wr1 1 (fun b => b = F.L) s) no s₀ s9 := hx'.trans e9 (fun _ h => h.elim) (fun _ h => h.elim)
        have w9 := lw s9 _ st9 (let ⟨o, q⟩ := itl; ⟨o, e9.keep' _ _ q⟩)
        have hpi : its xs = its pre' ++ PV.int l :: its (List.replicate m l) := by rw [hp', List.replicate_succ]; simp [its]
        have hpl : (its (List.replicate m l)).length = m := by simp [its]
        refine GW.cons (GW.exprYield (n := m) (hw'.split (hw.split rfl)) (hw'.guard (hw.guard rfl)) st9.inter (by rw [show F.env.scope = F.sc from rfl, hsc]; rfl) ?_)
        refine (Ev.nm (pv := .int l) rfl (by decide)).run F _ Z _ s9 _ _ hsc (by exact ok2 _ rfl rfl) st9 fun v s10 Z10 e10 z10 r10 => fun kap hkap => ?_
        have st10 := nz (Z6 := Z) st9 e10
        refine YP.intro x9 w9 e10 z10 hZw (by have := cutLast hpi; rw [hpl] at this; exact this) r10 fun hne s'' hkeep bs'' => hkap s'' ?_
        obtain ⟨m', rfl⟩ : ∃ m', m = m' + 1 := ⟨m - 1, by have := hne.elim (fun h => by cases h) id; omega⟩
        have stw := st10.wake ho h0 (fun b o h e => hkeep b o (h.imp id fun w => .inl w) e) bs''
        exact GW.nil (ih2 (m' + 1) _ s'' s'' (Nat.lt_succ_self _) ⟨rfl, m', pre' ++ [l], rfl, by rw [hp']; simp [List.replicate_succ], stw, (let ⟨o, q⟩ := itl; ⟨o, hkeep it o (.inr (hwe it rfl)) (e10.keep' _ _ (e9.keep' _ _ q))⟩), ExtG.refl _ _ _⟩)
      | @cons _ _ _ cur' _ hy1 hy2 hgr' =>
        have hn1 : (y == (127 : Int)) = false := beq_eq_false_iff_ne.mpr hy1
        have hn2 : (y == (0 : Int)) = false := beq_eq_false_iff_ne.mpr hy2
        rw [hn1, if_neg Bool.false_ne_true]
        refine GW.nil (GW.cons (GW.if_ ((EvT.cmp (a := .int y) (b := .int 0) (Ev.nm rfl) Ev.cInt CmpV.eqI rfl).run F _ Z _ s6 _ _ hsc (by exact ok1 _ rfl rfl) st6 fun s7 Z7 e7 z7 => ?_)))
        have st7 := nz (Z6 := Z) st6 e7
        have x7 : ExtG (wr1 1 (fun b => b = F.L) s) no s₀ s7 := x6.trans e7 (fun _ h => h.elim) (fun _ h => h.elim)
        have it7 : s7.heap.get? it = some oi := e7.keep' _ _ it6
        have hL7 : s7.heap.IsList la vs.toArray := hL6.at fun o e => e7.keep' _ _ e
        rw [hn2, if_neg Bool.false_ne_true]
        refine GW.nil ?_
        have w7 := lw s7 _ st7 ⟨_, it7⟩
        have hpi : its xs = its pre ++ PV.int y :: its cur' := by rw [hpre]; simp [its]
        have hpl : (its cur').length = cur'.length := by simp [its]
        refine GW.cons (GW.exprYield (n := cur'.length) (hw.split rfl) (hw.guard rfl) st7.inter (by rw [show F.env.scope = F.sc from rfl, hsc]; rfl) ?_)
        refine (Ev.nm (pv := .int y) rfl (by decide)).run F _ Z _ s7 _ _ hsc (by exact ok1 _ rfl rfl) st7 fun v s8 Z8 e8 z8 r8 => fun kap hkap => ?_
        have st8 := nz (Z6 := Z) st7 e8
        refine YP.intro x7 w7 e8 z8 hZw (by have := cutLast hpi; rw [hpl] at this; exact this) r8 fun hne s'' hkeep bs'' => hkap s'' ?_
        have stw := st8.wake ho h0 (fun b o h e => hkeep b o (h.imp id fun w => .inl w) e) bs''
        have itw : s''.heap.get? it = some oi := hkeep it _ (.inr (hwe it rfl)) (e8.keep' _ _ it7)
        have hLw : s''.heap.IsList la vs.toArray := hL7.at fun o e => hkeep la o (.inl hza) (e8.keep' _ _ e)
        refine GW.cons (GW.wp (assignName (sc := dGrp.scope) (pv := .int y) hsc stw rfl rfl (by decide) rfl (fun _ => rfl) fun s9 z9 g9 st9 => ?_))
        refine GW.nil (ih t.length cur'.length s'' s9 (by simp) ⟨t, cur', i + 1, some y, pre ++ [y], rfl, by simp at hil; omega, hdt, rfl, hgr', by rw [hpre]; simp, st9.weak (subL.out ⟨rfl, rfl, trivial⟩), ⟨oi, ?_, hoi'⟩, ?_, g9.ext.wide (fun b w => .inl (.inl w)) (fun _ h => .inl h)⟩)
        · exact g9.ext.keep it _ (fun q => hL2 _ q rfl) itw
        · exact hLw.at fun o e => g9.ext.keep la o (stw.disj la hza) e
  · exact ((g1.ext.wide (fun b w => .inl (.inl w)) (fun _ h => .inl h)).trans e2 (fun _ h => h.elim) (fun _ h => h.elim))
end
end Mine
namespace Mine

theorem len1 {P : List Value → Prop} {vs : List Value} (h : vs.length = 1) (k : ∀ a, P [a]) : P vs := by
  match vs, h with
  | [a], _ => exact k a
theorem len2 {P : List Value → Prop} {vs : List Value} (h : vs.length = 2) (k : ∀ a b, P [a, b]) : P vs := by
  match vs, h with
  | [a, b], _ => exact k a b
theorem len3 {P : List Value → Prop} {vs : List Value} (h : vs.length = 3) (k : ∀ a b c, P [a, b, c]) : P vs := by
  match vs, h with
  | [a, b, c], _ => exact k a b c
def stAt (b : List Stmt) (i : Nat) : Stmt := b.getD i (.Pass default)
def forTgt : Stmt → Expr
  | .For t _ _ _ _ => t
  | _ => default
def forBody : Stmt → List Stmt
  | .For _ _ b _ _ => b
  | .While _ b _ _ => b
  | .If _ b _ _ => b
  | _ => []
def whTest : Stmt → Expr
  | .While t _ _ _ => t
  | _ => default

theorem seqIndex_0 {n : Nat} (h : 0 < n) : seqIndex? 0 n = some 0 := by
  unfold seqIndex?
  simp; omega
theorem seqIndex_last {n : Nat} (h : 0 < n) : seqIndex? (-1) n = some (n - 1) := by
  unfold seqIndex?
  simp only [show (-1 : Int) < 0 from by decide, if_true]
  have h1 : (-1 : Int) + n = ((n - 1 : Nat) : Int) := by omega
  rw [h1]
  simp; omega
theorem seqIndex_nat {n i : Nat} (h : i < n) : seqIndex? (i : Int) n = some i := by
  unfold seqIndex?
  simp; omega
theorem getI_nat {α : Type} {l : List α} {i : Nat} : getI l (i : Int) = l[i]? := by
  unfold getI
  by_cases h : i < l.length
  · rw [seqIndex_nat h]; rfl
  · rw [List.getElem?_eq_none (by omega)]
    cases e : seqIndex? (i : Int) l.length with
    | none => rfl
    | some j =>
      have := seqIndex_spec e
      omega
theorem getI_last {α : Type} {l : List α} : getI l (-1) = l.getLast? := by
  unfold getI
  by_cases h : 0 < l.length
  · rw [seqIndex_last h, List.getLast?_eq_getElem?]; rfl
  · have : l = [] := List.length_eq_zero_iff.mp (by omega)
    subst this
    rfl

/-! _ellipsis_match -/
abbrev dots : Tx := [46, 46, 46]
def ellMid (got : Tx) (hi : Nat) : List Tx → Nat → Bool
  | [], _ => true
  | w :: ws, lo => match findGo w hi lo (got.drop lo) with
    | none => false
    | some k => ellMid got hi ws (k + w.length)
def ellC (got : Tx) (lo hi : Nat) (ws : List Tx) : Bool := if hi < lo then false else ellMid got hi ws lo
def ellB (got : Tx) (lo : Nat) (ws : List Tx) : Bool := if (ws.getLastD []).isEmpty then ellC got lo got.length ws else if suffixB (ws.getLastD []) got then ellC got lo (got.length - (ws.getLastD []).length) ws.dropLast else false
def ellA (got : Tx) (ws : List Tx) : Bool := if (ws.headD []).isEmpty then ellB got 0 ws else if prefixB (ws.headD []) got then ellB got (ws.headD []).length ws.tail else false
def ellM (want got : Tx) : Bool := if subIn dots want then ellA got (splitE dots want) else want == got

theorem findGo_le (sub : Tx) (hi : Nat) : ∀ (x : Tx) (i k : Nat), findGo sub hi i x = some k → i ≤ k ∧ k + sub.length ≤ hi := by
  intro x
  induction x with
  | nil =>
    intro i k h
    rw [findGo_eq] at h
    split at h
    · rename_i q; cases h; exact ⟨Nat.le_refl _, of_decide_eq_true (Bool.and_eq_true_iff.mp q).1⟩
    · cases h
  | cons y t ih =>
    intro i k h
    rw [findGo_eq] at h
    split at h
    · rename_i q; cases h; exact ⟨Nat.le_refl _, of_decide_eq_true (Bool.and_eq_true_iff.mp q).1⟩
    · have := ih (i + 1) k h
      omega
theorem split_one (sp : Tx) : ∀ (x : Tx) (k : Nat) (cur : Tx), 1 ≤ (splitGo sp k cur x).length
  | [], _, _ => by simp [splitGo]
  | y :: t, 0, cur => by
    simp only [splitGo]
    split
    · simp
    · exact split_one sp t 0 _
  | y :: t, k + 1, cur => by
    simp only [splitGo]
    exact split_one sp t k cur
theorem split_two (sp : Tx) (hsp : sp ≠ []) : ∀ (x : Tx) (cur : Tx), subIn sp x = true → 2 ≤ (splitGo sp 0 cur x).length
  | [], cur, h => by
    cases sp with
    | nil => exact absurd rfl hsp
    | cons => simp [subIn, prefixB] at h
  | y :: t, cur, h => by
    simp only [splitGo]
    split
    · have := split_one sp t (sp.length - 1) []
      simp only [List.length_cons]; omega
    · rename_i q
      simp only [subIn, Bool.or_eq_true] at h
      exact split_two sp hsp t _ (h.resolve_left q)

section
variable {G : Gc} {n : Nat} {σ : Loc}
set_option maxHeartbeats 1000000

/-- what is known of the top -/
structure Top1 (G : Gc) : Prop where
  nb : NoB G
  ell : valOf G.p ("ELLIPSIS_MARKER" : Str) = some (.str (mkS dots))
  cm : valOf G.p ("CHAR_MAX" : Str) = some (.int 127)

theorem Ex.fin {sc : Scope} {τ' : Loc} (h : subL τ' σ) : Ex G n sc σ [] (.next τ') := Ex.out Ex.nil h.out
theorem EvT.to {sc : Scope} {e : Expr} {b b' : Bool} (h1 : EvT G n sc σ e b) (h : b = b') : EvT G n sc σ e b' := h ▸ h1
theorem Ev.to {sc : Scope} {e : Expr} {b b' : PV} (h1 : Ev G n sc σ e b) (h : b = b') : Ev G n sc σ e b' := h ▸ h1
def bout (b : Bool) : Out := match b with
  | true => .next []
  | false => .ret (.bool false)
theorem ellMid_none {got w : Tx} {hi lo : Nat} {ws : List Tx} (h : findGo w hi lo (got.drop lo) = none) : ellMid got hi (w :: ws) lo = false := by simp only [ellMid, h]
theorem ellMid_some {got w : Tx} {hi lo k : Nat} {ws : List Tx} (h : findGo w hi lo (got.drop lo) = some k) : ellMid got hi (w :: ws) lo = ellMid got hi ws (k + w.length) := by simp only [ellMid, h]

theorem ell_for (got : Tx) (hi : Nat) (hhi : hi ≤ got.length) (hl : got.length ≤ 1000000) (nb : NoB G) : ∀ (ws : List Tx) (lo : Nat), lo ≤ hi → (∀ w ∈ ws, w.length ≤ 1000000) →
    ExF G n dEll.scope [("startpos", .val (.int lo)), ("endpos", .val (.int hi)), ("got", .val (.str got))] (forTgt (stAt dEll.body 9)) (sts ws) true (forBody (stAt dEll.body 9)) [] (bout (ellMid got hi ws lo)) := by
  intro ws
  induction ws with
  | nil =>
    intro lo hlo hw
    exact ExF.nil (Ex.fin trivial)
  | cons w ws ih =>
    intro lo hlo hw
    have hwl := hw w (.head _)
    cases hf : findGo w hi lo (got.drop lo) with
    | none =>
      have hv : findL got w lo hi = -1 := by unfold findL; rw [hf]
      rw [ellMid_none hf]
      refine ExF.ret (AsV.name (.inl rfl)) (Ex.cons (Ex1.assign (Ev.to (Ev.methS PySem.F.slot_str_find PySem.F.type_str_find (Ev.nm rfl) (EvL.cons (Ev.nm rfl) (EvL.cons (Ev.nm rfl) (EvL.cons (Ev.nm rfl) EvL.nil (fun _ => rfl)) (fun _ => rfl)) (fun _ => rfl)) (CallV.find4 hlo hhi) (fun _ => rfl) (fun _ => rfl) rfl (fun _ _ => rfl) (fun _ _ => rfl)) (congrArg PV.int hv)) (.inl rfl) (fun _ => rfl)) ?_)
      exact Ex.stop (Ex1.if_ (c := true) (EvT.cmp (Ev.nm rfl) Ev.cInt CmpV.ltI rfl) (Ex.stop (Ex1.ret Ev.cBool) rfl)) rfl
    | some k =>
      obtain ⟨hk1, hk2⟩ := findGo_le w hi _ lo k hf
      have hv : findL got w lo hi = (k : Int) := by unfold findL; rw [hf]
      rw [ellMid_some hf]
      refine ExF.next (τ' := [("startpos", .val (.int ((k + w.length : Nat) : Int))), ("endpos", .val (.int hi)), ("got", .val (.str got))]) (AsV.name (.inl rfl)) (Ex.cons (Ex1.assign (Ev.to (Ev.methS PySem.F.slot_str_find PySem.F.type_str_find (Ev.nm rfl) (EvL.cons (Ev.nm rfl) (EvL.cons (Ev.nm rfl) (EvL.cons (Ev.nm rfl) EvL.nil (fun _ => rfl)) (fun _ => rfl)) (fun _ => rfl)) (CallV.find4 hlo hhi) (fun _ => rfl) (fun _ => rfl) rfl (fun _ _ => rfl) (fun _ _ => rfl)) (congrArg PV.int hv)) (.inl rfl) (fun _ => rfl)) ?_)
        (ih (k + w.length) hk2 fun x hx => hw x (.tail _ hx))
      refine Ex.cons (Ex1.if_ (c := false) (EvT.to (EvT.cmp (Ev.nm rfl) Ev.cInt CmpV.ltI rfl) (decide_eq_false (by omega))) Ex.nil) ?_
      exact Ex.cons (Ex1.aug rfl (Ev.callB nb (by decide +kernel) (by decide) (by decide) (by decide) rfl (EvL.cons (Ev.nm rfl) EvL.nil (fun _ => rfl)) (CallV.lenS hwl) (fun _ _ => rfl) (fun _ _ => rfl)) InV.addI (.inl rfl)) (Ex.fin ⟨rfl, rfl, rfl, trivial⟩)

theorem ell_C (got : Tx) (lo hi : Nat) (ws : List Tx) (hhi : hi ≤ got.length) (hl : got.length ≤ 1000000) (hw : ∀ w ∈ ws, w.length ≤ 1000000) (nb : NoB G) :
    Ex G n dEll.scope [("startpos", .val (.int lo)), ("endpos", .val (.int hi)), ("got", .val (.str got)), ("ws", .own (sts ws))] (dEll.body.drop 8) (.ret (.bool (ellC got lo hi ws))) := by
  by_cases h : hi < lo
  · have : ellC got lo hi ws = false := by unfold ellC; rw [if_pos h]
    rw [this]
    exact Ex.stop (Ex1.if_ (c := true) (EvT.to (EvT.cmp (Ev.nm rfl) (Ev.nm rfl) CmpV.gtI rfl) (decide_eq_true (by omega))) (Ex.stop (Ex1.ret Ev.cBool) rfl)) rfl
  · have : ellC got lo hi ws = ellMid got hi ws lo := by unfold ellC; rw [if_neg h]
    rw [this]
    refine Ex.cons (Ex1.if_ (c := false) (EvT.to (EvT.cmp (Ev.nm rfl) (Ev.nm rfl) CmpV.gtI rfl) (decide_eq_false (by omega))) Ex.nil) (Ex.freeze (x := "ws") (xs := sts ws) rfl ?_)
    have key := ell_for (G := G) (n := n) got hi hhi hl nb ws lo (by omega) hw
    cases hm : ellMid got hi ws lo with
    | true =>
      rw [hm] at key
      exact Ex.cons (Ex1.for_ (EvI.list (Ev.nm rfl)) (ExF.weak key (subL.out ⟨rfl, rfl, rfl, trivial⟩)) (fun _ _ => rfl)) (Ex.stop (Ex1.ret Ev.cBool) rfl)
    | false =>
      rw [hm] at key
      exact Ex.stop (Ex1.for_ (EvI.list (Ev.nm rfl)) (ExF.weak key (subL.out ⟨rfl, rfl, rfl, trivial⟩)) (fun _ _ => rfl)) rfl
theorem sts_len (l : List Tx) : (sts l).length = l.length := by simp [sts]
theorem getLast_D : ∀ {ws : List Tx}, ws ≠ [] → ws.getLast? = some (ws.getLastD [])
  | [], h => absurd rfl h
  | a :: r, _ => rfl
theorem getI_sts_last {ws : List Tx} (h : ws ≠ []) : getI (sts ws) (-1) = some (.str (ws.getLastD [])) := by
  rw [getI_last, sts, List.getLast?_map, getLast_D h]; rfl
theorem getLastD_mem : ∀ {ws : List Tx}, ws ≠ [] → ws.getLastD [] ∈ ws
  | [], h => absurd rfl h
  | a :: r, h => List.getLast_mem h
theorem sts_dropLast : ∀ (l : List Tx), (sts l).eraseIdx (l.length - 1) = sts l.dropLast
  | [] => rfl
  | [x] => rfl
  | x :: y :: r => by
    have := sts_dropLast (y :: r)
    simp only [sts, List.map_cons, List.length_cons, Nat.add_sub_cancel, List.eraseIdx_cons_succ, List.dropLast_cons_cons] at this ⊢
    rw [this]
theorem ell_B (got : Tx) (lo : Nat) (ws : List Tx) (hne : ws ≠ []) (hwl : ws.length ≤ 1000000) (hl : got.length ≤ 1000000) (hw : ∀ w ∈ ws, w.length ≤ 1000000) (nb : NoB G) :
    Ex G n dEll.scope [("startpos", .val (.int lo)), ("endpos", .val (.int got.length)), ("got", .val (.str got)), ("ws", .own (sts ws))] (dEll.body.drop 6) (.ret (.bool (ellB got lo ws))) := by
  have hlast := getI_sts_last hne
  have hwm := hw _ (getLastD_mem hne)
  refine Ex.cons (Ex1.assign (Ev.borrow (x := "ws") (xs := sts ws) rfl (Ev.idxL (Ev.nm rfl) (Ev.neg Ev.cInt) hlast (by rw [sts_len]; exact hwl) (fun _ _ => rfl)) rfl) (.inl rfl) (fun _ => rfl)) ?_
  by_cases h0 : (ws.getLastD []).isEmpty = true
  · have : ellB got lo ws = ellC got lo got.length ws := by unfold ellB; rw [if_pos h0]
    rw [this]
    refine Ex.cons (Ex1.if_ (c := false) (EvT.to (EvT.val (Ev.nm rfl) rfl (fun c e => by cases e; exact hwm) (fun _ e => by cases e) (fun _ => rfl)) (by rw [h0]; rfl)) Ex.nil) ?_
    exact (ell_C got lo got.length ws (Nat.le_refl _) hl hw nb).weak (subL.out ⟨rfl, rfl, rfl, rfl, trivial⟩)
  · have h0' : (ws.getLastD []).isEmpty = false := by simpa using h0
    by_cases h1 : suffixB (ws.getLastD []) got = true
    · have : ellB got lo ws = ellC got lo (got.length - (ws.getLastD []).length) ws.dropLast := by unfold ellB; rw [if_neg h0, if_pos h1]
      rw [this]
      have hle : (ws.getLastD []).length ≤ got.length := of_decide_eq_true (Bool.and_eq_true_iff.mp h1).1
      have hpos : 0 < ws.length := List.length_pos_iff.mpr hne
      refine Ex.cons (τ := [("startpos", .val (.int lo)), ("endpos", .val (.int ((got.length - (ws.getLastD []).length : Nat) : Int))), ("got", .val (.str got)), ("ws", .own (sts ws.dropLast))])
        (Ex1.if_ (c := true) (EvT.to (EvT.val (Ev.nm rfl) rfl (fun c e => by cases e; exact hwm) (fun _ e => by cases e) (fun _ => rfl)) (by rw [h0']; rfl)) ?_) ?_
      · refine Ex.cons (Ex1.if_ (c := true) (EvT.to (EvT.val (Ev.methS PySem.F.slot_str_endswith PySem.F.type_str_endswith (Ev.nm rfl) (EvL.cons (Ev.nm rfl) EvL.nil (fun _ => rfl)) CallV.endswith (fun _ => rfl) (fun _ => rfl) rfl (fun _ _ => rfl) (fun _ _ => rfl)) rfl (fun _ e => by cases e) (fun _ e => by cases e) (fun _ => rfl)) h1) ?_) Ex.nil
        refine Ex.cons (Ex1.aug rfl (Ev.callB nb (by decide +kernel) (by decide) (by decide) (by decide) rfl (EvL.cons (Ev.nm rfl) EvL.nil (fun _ => rfl)) (CallV.lenS hwm) (fun _ _ => rfl) (fun _ _ => rfl)) InV.subI (.inl rfl)) ?_
        refine Ex.cons (Ex1.delItem (xs := sts ws) (k := ws.length - 1) rfl (Ev.neg Ev.cInt) (by decide) (by rw [sts_len]; exact hwl) (by rw [sts_len]; exact seqIndex_last hpos)) (Ex.fin ?_)
        rw [sts_dropLast, show (got.length : Int) - ((ws.getLastD []).length : Int) = ((got.length - (ws.getLastD []).length : Nat) : Int) by omega]
        exact ⟨rfl, rfl, rfl, rfl, trivial⟩
      · exact ell_C got lo (got.length - (ws.getLastD []).length) ws.dropLast (by omega) hl (fun w hx => hw w (List.mem_of_mem_take (by rw [List.dropLast_eq_take] at hx; exact hx))) nb
    · have : ellB got lo ws = false := by unfold ellB; rw [if_neg h0, if_neg h1]
      rw [this]
      refine Ex.stop (Ex1.if_ (c := true) (EvT.to (EvT.val (Ev.nm rfl) rfl (fun c e => by cases e; exact hwm) (fun _ e => by cases e) (fun _ => rfl)) (by rw [h0']; rfl)) ?_) rfl
      exact Ex.stop (Ex1.if_ (c := false) (EvT.to (EvT.val (Ev.methS PySem.F.slot_str_endswith PySem.F.type_str_endswith (Ev.nm rfl) (EvL.cons (Ev.nm rfl) EvL.nil (fun _ => rfl)) CallV.endswith (fun _ => rfl) (fun _ => rfl) rfl (fun _ _ => rfl) (fun _ _ => rfl)) rfl (fun _ e => by cases e) (fun _ e => by cases e) (fun _ => rfl)) (by simpa using h1)) (Ex.stop (Ex1.ret Ev.cBool) rfl)) rfl
theorem ellA_cons (got w : Tx) (ws : List Tx) : ellA got (w :: ws) = if w.isEmpty then ellB got 0 (w :: ws) else if prefixB w got then ellB got w.length ws else false := rfl
theorem ell_A (got : Tx) (w : Tx) (ws : List Tx) (hne : ws ≠ []) (hwl : (w :: ws).length ≤ 1000000) (hl : got.length ≤ 1000000) (hw : ∀ x ∈ w :: ws, x.length ≤ 1000000) (nb : NoB G) :
    Ex G n dEll.scope [("startpos", .val (.int 0)), ("endpos", .val (.int got.length)), ("got", .val (.str got)), ("ws", .own (sts (w :: ws)))] (dEll.body.drop 4) (.ret (.bool (ellA got (w :: ws)))) := by
  have hwm := hw w (.head _)
  refine Ex.cons (Ex1.assign (Ev.borrow (x := "ws") (xs := sts (w :: ws)) (pv := .str w) rfl (Ev.idxL (Ev.nm rfl) Ev.cInt (by unfold getI; rw [seqIndex_0 (by simp [sts])]; rfl) (by rw [sts_len]; exact hwl) (fun _ _ => rfl)) rfl) (.inl rfl) (fun _ => rfl)) ?_
  by_cases h0 : w.isEmpty = true
  · have : ellA got (w :: ws) = ellB got 0 (w :: ws) := by rw [ellA_cons, if_pos h0]
    rw [this]
    refine Ex.cons (Ex1.if_ (c := false) (EvT.to (EvT.val (Ev.nm rfl) rfl (fun c e => by cases e; exact hwm) (fun _ e => by cases e) (fun _ => rfl)) (by rw [h0]; rfl)) Ex.nil) ?_
    exact (ell_B got 0 (w :: ws) (by simp) hwl hl hw nb).weak (subL.out ⟨rfl, rfl, rfl, rfl, trivial⟩)
  · have h0' : w.isEmpty = false := by simpa using h0
    by_cases h1 : prefixB w got = true
    · have : ellA got (w :: ws) = ellB got w.length ws := by rw [ellA_cons, if_neg h0, if_pos h1]
      rw [this]
      refine Ex.cons (τ := [("startpos", .val (.int w.length)), ("endpos", .val (.int got.length)), ("got", .val (.str got)), ("ws", .own (sts ws))])
        (Ex1.if_ (c := true) (EvT.to (EvT.val (Ev.nm rfl) rfl (fun c e => by cases e; exact hwm) (fun _ e => by cases e) (fun _ => rfl)) (by rw [h0']; rfl)) ?_) ?_
      · refine Ex.cons (Ex1.if_ (c := true) (EvT.to (EvT.val (Ev.methS PySem.F.slot_str_startswith PySem.F.type_str_startswith (Ev.nm rfl) (EvL.cons (Ev.nm rfl) EvL.nil (fun _ => rfl)) CallV.startswith (fun _ => rfl) (fun _ => rfl) rfl (fun _ _ => rfl) (fun _ _ => rfl)) rfl (fun _ e => by cases e) (fun _ e => by cases e) (fun _ => rfl)) h1) ?_) Ex.nil
        refine Ex.cons (Ex1.assign (Ev.callB nb (by decide +kernel) (by decide) (by decide) (by decide) rfl (EvL.cons (Ev.nm rfl) EvL.nil (fun _ => rfl)) (CallV.lenS hwm) (fun _ _ => rfl) (fun _ _ => rfl)) (.inl rfl) (fun _ => rfl)) ?_
        exact Ex.cons (Ex1.delItem (xs := sts (w :: ws)) (k := 0) rfl Ev.cInt (by decide) (by rw [sts_len]; exact hwl) (seqIndex_0 (by simp [sts]))) (Ex.fin ⟨rfl, rfl, rfl, rfl, trivial⟩)
      · exact ell_B got w.length ws hne (by simp at hwl; omega) hl (fun x hx => hw x (.tail _ hx)) nb
    · have : ellA got (w :: ws) = false := by rw [ellA_cons, if_neg h0, if_neg h1]
      rw [this]
      refine Ex.stop (Ex1.if_ (c := true) (EvT.to (EvT.val (Ev.nm rfl) rfl (fun c e => by cases e; exact hwm) (fun _ e => by cases e) (fun _ => rfl)) (by rw [h0']; rfl)) ?_) rfl
      exact Ex.stop (Ex1.if_ (c := false) (EvT.to (EvT.val (Ev.methS PySem.F.slot_str_startswith PySem.F.type_str_startswith (Ev.nm rfl) (EvL.cons (Ev.nm rfl) EvL.nil (fun _ => rfl)) CallV.startswith (fun _ => rfl) (fun _ => rfl) rfl (fun _ _ => rfl) (fun _ _ => rfl)) rfl (fun _ e => by cases e) (fun _ e => by cases e) (fun _ => rfl)) (by simpa using h1)) (Ex.stop (Ex1.ret Ev.cBool) rfl)) rfl
theorem split_bound (sp : Tx) : ∀ (x : Tx) (k : Nat) (cur : Tx), ∀ w ∈ splitGo sp k cur x, w.length ≤ cur.length + x.length
  | [], _, cur, w, h => by simp [splitGo] at h; subst h; simp
  | y :: t, 0, cur, w, h => by
    simp only [splitGo] at h
    split at h
    · rcases List.mem_cons.mp h with rfl | h
      · simp
      · have := split_bound sp t _ _ w h
        simp only [List.length_cons, List.length_nil] at this ⊢; omega
    · have := split_bound sp t _ _ w h
      simp only [List.length_cons, List.length_append, List.length_nil] at this ⊢; omega
  | y :: t, k + 1, cur, w, h => by
    simp only [splitGo] at h
    have := split_bound sp t _ _ w h
    simp only [List.length_cons]; omega

theorem fn_ell (T : Top1 G) (hm : dEll ∈ recsOf G.p) (want got : Tx) (h1 : want.length < 900000) (h2 : got.length ≤ 1000000) : Fn G (n + 1) "_ellipsis_match" [.str want, .str got] (.bool (ellM want got)) := by
  refine Fn.intro (d := dEll) (ns := ["want", "got"]) hm (by rfl) ?_ (by decide) (by decide +kernel) (by decide +kernel) rfl rfl rfl ?_
  · intro pm code doc vs hv
    (apply len2 hv; exact fun _ _ => rfl)
  · have hmk : ∀ {σ : Loc}, Ev G n dEll.scope σ (.Name "ELLIPSIS_MARKER" ⟨0, 0, 0, 0⟩) (.str dots) := Ev.const rfl (by decide) T.ell fun v hv => reads_str rfl hv
    by_cases hin : subIn dots want = true
    · have : ellM want got = ellA got (splitE dots want) := by unfold ellM; rw [if_pos hin]
      rw [this]
      have h2' := split_two dots (by decide) want [] hin
      have hlen := split_len dots want 0 []
      have hbd : ∀ w ∈ splitE dots want, w.length ≤ 1000000 := fun w hw => by have := split_bound dots want 0 [] w hw; simp at this; omega
      refine Ex.cons (Ex1.if_ (c := false) (EvT.to (EvT.cmp (Ev.const rfl (by decide) T.ell fun v hv => reads_str rfl hv) (Ev.nm rfl) CmpV.notInS rfl) (by rw [hin]; rfl)) Ex.nil) ?_
      refine Ex.cons (Ex1.assignOwn (EvN.split (Ev.nm rfl) (Ev.const rfl (by decide) T.ell fun v hv => reads_str rfl hv) (by decide) (by decide +kernel) (by omega) (fun _ => rfl) (fun _ => rfl) rfl (fun _ _ => rfl)) rfl (fun _ => rfl)) ?_
      refine Ex.cons (Ex1.assert (EvT.borrow (x := "ws") (xs := sts (splitE dots want)) rfl (EvT.to (EvT.cmp (Ev.callB T.nb (by decide +kernel) (by decide) (by decide) (by decide) rfl (EvL.cons (Ev.nm rfl) EvL.nil (fun _ => rfl)) (CallV.lenL (by rw [sts_len]; unfold splitE; omega)) (fun _ _ => rfl) (fun _ _ => rfl)) Ev.cInt CmpV.geI rfl) (decide_eq_true (by rw [sts_len]; unfold splitE; omega))))) ?_
      refine Ex.cons (Ex1.assignSw (a := "startpos") (b := "endpos") (x := .int 0) (y := .int got.length) (Ev.mkT (EvL.cons Ev.cInt (EvL.cons (Ev.callB T.nb (by decide +kernel) (by decide) (by decide) (by decide) rfl (EvL.cons (Ev.nm rfl) EvL.nil (fun _ => rfl)) (CallV.lenS h2) (fun _ _ => rfl) (fun _ _ => rfl)) EvL.nil (fun _ => rfl)) (fun _ => rfl)) (by simp)) (.inl rfl) (.inl rfl) (fun _ => rfl) (fun F h => by cases F; subst h; rfl)) ?_
      have hw3 : ∃ w ws, splitE dots want = w :: ws ∧ ws ≠ [] := by
        unfold splitE
        match hq : splitGo dots 0 [] want with
        | [] => rw [hq] at h2'; simp at h2'
        | [w] => rw [hq] at h2'; simp at h2'
        | w :: x :: r => exact ⟨w, x :: r, rfl, by simp⟩
      obtain ⟨w, ws, he, hne⟩ := hw3
      rw [he] at hbd ⊢
      exact (ell_A got w ws hne (by rw [← he]; unfold splitE; omega) h2 hbd T.nb).weak (subL.out ⟨rfl, rfl, rfl, rfl, trivial⟩)
    · have : ellM want got = (want == got) := by unfold ellM; rw [if_neg hin]
      rw [this]
      exact Ex.stop (Ex1.if_ (c := true) (EvT.to (EvT.cmp (Ev.const rfl (by decide) T.ell fun v hv => reads_str rfl hv) (Ev.nm rfl) CmpV.notInS rfl) (by simpa using hin)) (Ex.stop (Ex1.ret (Ev.cmp (Ev.nm rfl) (Ev.nm rfl) CmpV.eqS rfl)) rfl)) rfl
end
end Mine
namespace Mine

def slcN (l : Tx) (lo hi : Nat) : Tx := (l.drop lo).take (hi - lo)
theorem slc_nat (l : Tx) (lo hi : Nat) (h1 : lo ≤ l.length) (h2 : hi ≤ l.length) : slc l (some (lo : Int)) (some (hi : Int)) = slcN l lo hi := by
  unfold slc slcN clip
  have e1 : (if (lo : Int) < 0 then (lo : Int) + (l.length : Int) else lo) = lo := if_neg (by omega)
  have e2 : (if (hi : Int) < 0 then (hi : Int) + (l.length : Int) else hi) = hi := if_neg (by omega)
  simp only [e1, e2, Int.toNat_natCast, Nat.min_eq_left h1, Nat.min_eq_left h2]
theorem slc_from (l : Tx) (lo : Nat) (h1 : lo ≤ l.length) : slc l (some (lo : Int)) none = l.drop lo := by
  unfold slc clip
  have e1 : (if (lo : Int) < 0 then (lo : Int) + (l.length : Int) else lo) = lo := if_neg (by omega)
  simp only [e1, Int.toNat_natCast, Nat.min_eq_left h1]
  rw [List.take_of_length_le]
  rw [List.length_drop]; omega
theorem slc_to (l : Tx) (hi : Nat) (h1 : hi ≤ l.length) : slc l none (some (hi : Int)) = l.take hi := by
  unfold slc clip
  have e1 : (if (hi : Int) < 0 then (hi : Int) + (l.length : Int) else hi) = hi := if_neg (by omega)
  simp only [e1, Int.toNat_natCast, Nat.min_eq_left h1]
  simp

def stripGo (addr : Tx) : List (Nat × Tx) → Nat → Option Nat → List Tx → Nat × List Tx
  | [], st, _, res => (st, res)
  | (p, ch) :: r, st, op, res => if ch == [34] then (match op with
      | none => stripGo addr r st (some p) res
      | some o => stripGo addr r (p + 1) none (if st != o then res ++ [slcN addr st o] else res))
    else stripGo addr r st op res
def stripF (addr : Tx) (p : Nat × List Tx) : Tx := joinT [] (if decide (p.1 < addr.length) then p.2 ++ [addr.drop p.1] else p.2)
def stripQ (addr : Tx) : Tx := if subIn [34] addr then stripF addr (stripGo addr (escGo 0 false addr) 0 none []) else addr
def optN : Option Nat → PV
  | none => .none
  | some i => .int i

section
variable {G : Gc} {n : Nat} {σ : Loc}
set_option maxHeartbeats 1000000

theorem escGo_pos : ∀ (c : Tx) (i : Nat) (b : Bool), (b = true → 0 < i) → ∀ p ∈ escGo i b c, p.1 < i + c.length ∨ (p.1 < i)
  | [], i, false, _, p, h => by simp [escGo] at h
  | [], i, true, hb, p, h => by
    simp [escGo] at h; subst h; have := hb rfl; simp; omega
  | x :: t, i, true, hb, p, h => by
    simp only [escGo] at h
    rcases List.mem_cons.mp h with rfl | h
    · simp
    · have := escGo_pos t (i + 1) false (fun h => by cases h) p h
      simp only [List.length_cons]; omega
  | x :: t, i, false, hb, p, h => by
    simp only [escGo] at h
    split at h
    · have := escGo_pos t (i + 1) true (fun _ => Nat.succ_pos _) p h
      simp only [List.length_cons]; omega
    · rcases List.mem_cons.mp h with rfl | h
      · simp
      · have := escGo_pos t (i + 1) false (fun h => by cases h) p h
        simp only [List.length_cons]; omega
theorem escGo_len : ∀ (c : Tx) (i : Nat) (b : Bool), (escGo i b c).length ≤ c.length + 1
  | [], i, b => by cases b <;> simp [escGo]
  | x :: t, i, true => by
    have := escGo_len t (i + 1) false
    simp only [escGo, List.length_cons]; omega
  | x :: t, i, false => by
    simp only [escGo]
    split
    · have := escGo_len t (i + 1) true
      simp only [List.length_cons]; omega
    · have := escGo_len t (i + 1) false
      simp only [List.length_cons]; omega

/-- a text's items, by the generator -/
theorem EvI.esc {sc : Scope} {e : Expr} {x : Str} {c : Tx} {p pos : Pos} (T : Top1 G) (h40 : 40 ≤ n) (hn : n ≤ 999) (hm : dIter ∈ recsOf G.p) (hx : x = ("_iter_escaped_chars" : Str))
    (hk : sc.names.lookup x = some .globalImplicit) (h1 : Ev G n sc σ e (.str c)) (he : ∀ env pos, backTo pos (starEach [e] env) = [(false, eval e env)]) (hse : ∀ env, starEach [e] env = (false, eval e env) :: starEach [] env) :
    EvI G n sc σ (.Call (.Name x p) [e] [] pos) (escPV (escGo 0 false c)) true := by
  subst hx
  refine EvI.gen (d := dIter) (ns := ["addr"]) (k1 := 2) hn (by decide) hk (EvL.cons h1 EvL.nil hse) hm (by rfl) (fun env pos => (he env pos).trans rfl) ?_ (by decide) ?_ (by decide +kernel) rfl rfl rfl rfl (spec_iter h40 hn T.nb c)
  · intro pm code doc vs hv
    (apply len1 hv; exact fun _ => rfl)
  · intro y hy
    rw [List.mem_singleton.mp hy]; rfl

theorem strip_for (addr : Tx) (hl : addr.length ≤ 900) (nb : NoB G) : ∀ (items : List (Nat × Tx)) (st : Nat) (op : Option Nat) (res : List Tx), res.length + items.length ≤ 950 → (∀ p ∈ items, p.1 < addr.length) → st ≤ addr.length → (∀ o, op = some o → o < addr.length) →
    ExF G n dStrip.scope [("start", .val (.int st)), ("open_pos", .val (optN op)), ("addr", .val (.str addr)), ("result", .own (sts res))] (forTgt (stAt dStrip.body 4)) (escPV items) true (forBody (stAt dStrip.body 4)) []
      (.next [("start", .val (.int (stripGo addr items st op res).1)), ("addr", .val (.str addr)), ("result", .own (sts (stripGo addr items st op res).2))]) := by
  intro items
  induction items with
  | nil =>
    intro st op res hlen hp hst hop
    exact ExF.nil (Ex.fin ⟨rfl, rfl, rfl, trivial⟩)
  | cons q items ih =>
    obtain ⟨p, ch⟩ := q
    intro st op res hlen hp hst hop
    have hpl := hp _ (.head _)
    simp only [List.length_cons] at hlen
    have tgt : ∀ {τ : Loc}, AsV G true dStrip.scope τ (forTgt (stAt dStrip.body 4)) (.tup [.int p, .str ch]) (("ch", .val (.str ch)) :: ("pos", .val (.int p)) :: τ) := AsV.tup (AsL.cons (AsV.name (.inl rfl)) (AsL.cons (AsV.name (.inl rfl)) AsL.nil)) rfl (fun _ => rfl)
    by_cases hq : (ch == [34]) = true
    · cases op with
      | none =>
        have e : stripGo addr ((p, ch) :: items) st none res = stripGo addr items st (some p) res := by simp only [stripGo, hq, if_true]
        rw [e]
        refine ExF.next tgt ?_ (ih st (some p) res (by omega) (fun x hx => hp x (.tail _ hx)) hst (fun o ho => by cases ho; exact hpl))
        refine Ex.cons (Ex1.if_ (c := true) (EvT.to (EvT.cmp (Ev.nm rfl) (Ev.cStr rfl) CmpV.eqS rfl) hq)
          (Ex.cons (Ex1.if_ (c := true) (EvT.cmp (Ev.nm (pv := .none) rfl) Ev.cNone (CmpV.is rfl) rfl) (Ex.cons (Ex1.assign (Ev.nm rfl) (.inl rfl) (fun _ => rfl)) Ex.nil)) Ex.nil)) (Ex.fin ?_)
        exact ⟨rfl, rfl, rfl, rfl, trivial⟩
      | some o =>
        have hol := hop o rfl
        have hslc := slc_nat addr st o hst (Nat.le_of_lt hol)
        have e : stripGo addr ((p, ch) :: items) st (some o) res = stripGo addr items (p + 1) none (if st != o then res ++ [slcN addr st o] else res) := by simp only [stripGo, hq, if_true]
        rw [e]
        by_cases hso : (st != o) = true
        · rw [if_pos hso]
          have hso' : ((st : Int) != (o : Int)) = true := by rw [bne_iff_ne]; rw [bne_iff_ne] at hso; omega
          refine ExF.next tgt ?_ (ih (p + 1) none (res ++ [slcN addr st o]) (by simp; omega) (fun x hx => hp x (.tail _ hx)) hpl (fun o ho => by cases ho))
          refine Ex.cons (Ex1.if_ (c := true) (EvT.to (EvT.cmp (Ev.nm rfl) (Ev.cStr rfl) CmpV.eqS rfl) hq)
            (Ex.cons (Ex1.if_ (c := false) (EvT.cmp (Ev.nm (pv := .int o) rfl) Ev.cNone (CmpV.is rfl) rfl)
              (Ex.cons (Ex1.if_ (c := true) (EvT.to (EvT.cmp (Ev.nm rfl) (Ev.nm rfl) CmpV.neI rfl) hso')
                  (Ex.cons (Ex1.append (xs := sts res) rfl (Ev.slcS (Ev.nm rfl) (EvP.at (Ev.nm rfl)) (EvP.at (Ev.nm rfl)) (by omega)) (by decide) (by rw [sts_len]; omega) (fun _ => rfl) (fun _ _ => rfl) (fun _ => rfl) rfl (fun _ => rfl)) Ex.nil))
                (Ex.cons (Ex1.assign (Ev.bin (Ev.nm rfl) Ev.cInt BinV.addI) (.inl rfl) (fun _ => rfl)) (Ex.cons (Ex1.assign Ev.cNone (.inl rfl) (fun _ => rfl)) Ex.nil)))) Ex.nil)) (Ex.fin ?_)
          rw [hslc]
          exact ⟨rfl, rfl, rfl, (by show some (Slot.own (sts res ++ [.str (slcN addr st o)])) = _; simp [sts]), trivial⟩
        · rw [if_neg hso]
          have hso' : ((st : Int) != (o : Int)) = false := by
            have : st = o := by simpa using hso
            subst this; simp
          refine ExF.next tgt ?_ (ih (p + 1) none res (by omega) (fun x hx => hp x (.tail _ hx)) hpl (fun o ho => by cases ho))
          refine Ex.cons (Ex1.if_ (c := true) (EvT.to (EvT.cmp (Ev.nm rfl) (Ev.cStr rfl) CmpV.eqS rfl) hq)
            (Ex.cons (Ex1.if_ (c := false) (EvT.cmp (Ev.nm (pv := .int o) rfl) Ev.cNone (CmpV.is rfl) rfl)
              (Ex.cons (Ex1.if_ (c := false) (EvT.to (EvT.cmp (Ev.nm rfl) (Ev.nm rfl) CmpV.neI rfl) hso') Ex.nil)
                (Ex.cons (Ex1.assign (Ev.bin (Ev.nm rfl) Ev.cInt BinV.addI) (.inl rfl) (fun _ => rfl)) (Ex.cons (Ex1.assign Ev.cNone (.inl rfl) (fun _ => rfl)) Ex.nil)))) Ex.nil)) (Ex.fin ?_)
          exact ⟨rfl, rfl, rfl, rfl, trivial⟩
    · have e : stripGo addr ((p, ch) :: items) st op res = stripGo addr items st op res := by simp only [stripGo, hq]; rfl
      rw [e]
      refine ExF.next tgt ?_ (ih st op res (by omega) (fun x hx => hp x (.tail _ hx)) hst hop)
      have hq' : (ch == [34]) = false := by simpa using hq
      exact Ex.cons (Ex1.if_ (c := false) (EvT.to (EvT.cmp (Ev.nm rfl) (Ev.cStr rfl) CmpV.eqS rfl) hq') Ex.nil) (Ex.fin ⟨rfl, rfl, rfl, rfl, trivial⟩)

theorem stripGo_inv (addr : Tx) : ∀ (items : List (Nat × Tx)) (st : Nat) (op : Option Nat) (res : List Tx), st ≤ addr.length → (∀ p ∈ items, p.1 < addr.length) → (∀ x ∈ res, x.length ≤ addr.length) →
    (stripGo addr items st op res).1 ≤ addr.length ∧ (stripGo addr items st op res).2.length ≤ res.length + items.length ∧ ∀ x ∈ (stripGo addr items st op res).2, x.length ≤ addr.length
  | [], st, op, res, h1, h2, h3 => ⟨h1, Nat.le_refl _, h3⟩
  | (p, ch) :: r, st, op, res, h1, h2, h3 => by
    have hp := h2 _ (.head _)
    have hr := fun x hx => h2 x (.tail _ hx)
    simp only [stripGo]
    split
    · cases op with
      | none =>
        have := stripGo_inv addr r st (some p) res h1 hr h3
        exact ⟨this.1, by have := this.2.1; simp only [List.length_cons]; omega, this.2.2⟩
      | some o =>
        have := stripGo_inv addr r (p + 1) none (if st != o then res ++ [slcN addr st o] else res) hp hr (by
          split
          · intro x hx
            rcases List.mem_append.mp hx with hx | hx
            · exact h3 x hx
            · rw [List.mem_singleton.mp hx]; unfold slcN; rw [List.length_take, List.length_drop]; omega
          · exact h3)
        refine ⟨this.1, Nat.le_trans this.2.1 ?_, this.2.2⟩
        split <;> simp <;> omega
    · have := stripGo_inv addr r st op res h1 hr h3
      exact ⟨this.1, by have := this.2.1; simp only [List.length_cons]; omega, this.2.2⟩
theorem joinW_le {l : List Tx} {B k : Nat} (h : ∀ x ∈ l, x.length ≤ B) : joinW (List.replicate k 0) l ≤ l.length * (B + k) := by
  unfold joinW
  induction l with
  | nil => simp
  | cons a r ih =>
    have := ih fun x hx => h x (.tail _ hx)
    have := h a (.head _)
    simp only [List.map_cons, List.sum_cons, List.length_cons, List.length_replicate] at *
    rw [Nat.succ_mul]; omega
theorem joinW_nil {l : List Tx} {B : Nat} (h : ∀ x ∈ l, x.length ≤ B) : joinW [] l ≤ l.length * B := joinW_le (k := 0) h
theorem strip_fin (addr : Tx) (hl : addr.length ≤ 900) : joinW [] (if decide ((stripGo addr (escGo 0 false addr) 0 none []).1 < addr.length) then (stripGo addr (escGo 0 false addr) 0 none []).2 ++ [addr.drop (stripGo addr (escGo 0 false addr) 0 none []).1] else (stripGo addr (escGo 0 false addr) 0 none []).2) ≤ 1000000 ∧
    (∀ p ∈ escGo 0 false addr, p.1 < addr.length) ∧ (stripGo addr (escGo 0 false addr) 0 none []).1 ≤ addr.length ∧ (stripGo addr (escGo 0 false addr) 0 none []).2.length ≤ addr.length + 1 := by
  have hp : ∀ p ∈ escGo 0 false addr, p.1 < addr.length := fun p hp => by have := escGo_pos addr 0 false (fun h => by cases h) p hp; omega
  have hi := stripGo_inv addr (escGo 0 false addr) 0 none [] (Nat.zero_le _) hp (fun x hx => by cases hx)
  have hle := escGo_len addr 0 false
  have h2 : (stripGo addr (escGo 0 false addr) 0 none []).2.length ≤ addr.length + 1 := by have := hi.2.1; simp at this; omega
  refine ⟨?_, hp, hi.1, h2⟩
  have key : ∀ l : List Tx, (∀ x ∈ l, x.length ≤ addr.length) → l.length ≤ addr.length + 2 → joinW [] l ≤ 1000000 := fun l h1 h2 => by
    have := joinW_nil h1
    have h3 : l.length * addr.length ≤ 902 * 900 := Nat.mul_le_mul (by omega) hl
    omega
  split
  · refine key _ (fun x hx => ?_) (by simp; omega)
    rcases List.mem_append.mp hx with hx | hx
    · exact hi.2.2 x hx
    · rw [List.mem_singleton.mp hx, List.length_drop]; omega
  · exact key _ hi.2.2 (by omega)

theorem fn_strip (T : Top1 G) (h40 : 40 ≤ n) (hn : n ≤ 999) (hm : dStrip ∈ recsOf G.p) (hmi : dIter ∈ recsOf G.p) (addr : Tx) (hl : addr.length ≤ 900) : Fn G (n + 1) "_strip_quoted_realnames" [.str addr] (.str (stripQ addr)) := by
  refine Fn.intro (d := dStrip) (ns := ["addr"]) hm (by rfl) ?_ (by decide) (by decide +kernel) (by decide +kernel) rfl rfl rfl ?_
  · intro pm code doc vs hv
    (apply len1 hv; exact fun _ => rfl)
  · by_cases hin : subIn [34] addr = true
    · have : stripQ addr = stripF addr (stripGo addr (escGo 0 false addr) 0 none []) := by unfold stripQ; rw [if_pos hin]
      rw [this]
      obtain ⟨hw, hp, hst, hlen⟩ := strip_fin addr hl
      refine Ex.cons (Ex1.if_ (c := false) (EvT.to (EvT.cmp (Ev.cStr (c := [34]) rfl) (Ev.nm rfl) CmpV.notInS rfl) (by rw [hin]; rfl)) Ex.nil) ?_
      refine Ex.cons (Ex1.assign Ev.cInt (.inl rfl) (fun _ => rfl)) (Ex.cons (Ex1.assign Ev.cNone (.inl rfl) (fun _ => rfl)) (Ex.cons (Ex1.assignOwn (EvN.disp (xs := []) EvL.nil (by simp)) rfl (fun _ => rfl)) ?_))
      refine Ex.cons (Ex1.for_ (EvI.esc (c := addr) T h40 hn hmi rfl rfl (Ev.nm rfl) (fun _ _ => rfl) (fun _ => rfl)) (ExF.weak (strip_for addr hl T.nb (escGo 0 false addr) 0 none [] (by have := escGo_len addr 0 false; simp; omega) hp (Nat.zero_le _) (fun o h => by cases h)) (subL.out ⟨rfl, rfl, rfl, rfl, trivial⟩)) (fun _ _ => rfl)) ?_
      unfold stripF at *
      generalize stripGo addr (escGo 0 false addr) 0 none [] = r at *
      by_cases hlt : r.1 < addr.length
      · rw [decide_eq_true hlt, if_pos rfl] at *
        refine Ex.cons (Ex1.if_ (c := true) (EvT.to (EvT.cmp (Ev.nm rfl) (Ev.callB T.nb (by decide +kernel) (by decide) (by decide) (by decide) rfl (EvL.cons (Ev.nm rfl) EvL.nil (fun _ => rfl)) (CallV.lenS (by omega)) (fun _ _ => rfl) (fun _ _ => rfl)) CmpV.ltI rfl) (decide_eq_true (by omega)))
          (Ex.cons (Ex1.append (xs := sts r.2) rfl (Ev.slcS (Ev.nm rfl) (EvP.at (Ev.nm rfl)) EvP.no (by omega)) (by decide) (by rw [sts_len]; omega) (fun _ => rfl) (fun _ _ => rfl) (fun _ => rfl) rfl (fun _ => rfl)) Ex.nil)) ?_
        rw [slc_from addr r.1 hst, show sts r.2 ++ [PV.str (addr.drop r.1)] = sts (r.2 ++ [addr.drop r.1]) by simp [sts]]
        exact Ex.stop (Ex1.ret (Ev.borrow (x := "result") (xs := sts (r.2 ++ [addr.drop r.1])) rfl (Ev.methS PySem.F.slot_str_join PySem.F.type_str_join (Ev.cStr (c := []) rfl) (EvL.cons (Ev.nm rfl) EvL.nil (fun _ => rfl)) (CallV.join hw) (fun _ => rfl) (fun _ => rfl) rfl (fun _ _ => rfl) (fun _ _ => rfl)) rfl)) rfl
      · rw [decide_eq_false hlt, if_neg Bool.false_ne_true] at *
        refine Ex.cons (Ex1.if_ (c := false) (EvT.to (EvT.cmp (Ev.nm rfl) (Ev.callB T.nb (by decide +kernel) (by decide) (by decide) (by decide) rfl (EvL.cons (Ev.nm rfl) EvL.nil (fun _ => rfl)) (CallV.lenS (by omega)) (fun _ _ => rfl) (fun _ _ => rfl)) CmpV.ltI rfl) (decide_eq_false (by omega))) Ex.nil) ?_
        exact Ex.stop (Ex1.ret (Ev.borrow (x := "result") (xs := sts r.2) rfl (Ev.methS PySem.F.slot_str_join PySem.F.type_str_join (Ev.cStr (c := []) rfl) (EvL.cons (Ev.nm rfl) EvL.nil (fun _ => rfl)) (CallV.join hw) (fun _ => rfl) (fun _ => rfl) rfl (fun _ _ => rfl) (fun _ _ => rfl)) rfl)) rfl
    · have : stripQ addr = addr := by unfold stripQ; rw [if_neg hin]
      rw [this]
      exact Ex.stop (Ex1.if_ (c := true) (EvT.to (EvT.cmp (Ev.cStr (c := [34]) rfl) (Ev.nm rfl) CmpV.notInS rfl) (by simpa using hin)) (Ex.stop (Ex1.ret (Ev.nm rfl)) rfl)) rfl

def checkRun : List (Nat × Tx) → Int → Option Int
  | [], o => some o
  | (_, ch) :: r, o => if ch == [40] then checkRun r (o + 1) else if ch == [41] then (if decide (o - 1 < 0) then none else checkRun r (o - 1)) else checkRun r o
def checkP (addr : Tx) : Bool := match checkRun (escGo 0 false (stripQ addr)) 0 with
  | none => false
  | some o => o == 0
theorem check_for : ∀ (items : List (Nat × Tx)) (o : Int),
    ExF G n dCheck.scope [("opens", .val (.int o))] (forTgt (stAt dCheck.body 2)) (escPV items) true (forBody (stAt dCheck.body 2)) [] (match checkRun items o with | some o' => .next [("opens", .val (.int o'))] | none => .ret (.bool false)) := by
  intro items
  induction items with
  | nil => intro o; exact ExF.nil (Ex.fin ⟨rfl, trivial⟩)
  | cons q items ih =>
    obtain ⟨p, ch⟩ := q
    intro o
    have tgt : ∀ {τ : Loc}, AsV G true dCheck.scope τ (forTgt (stAt dCheck.body 2)) (.tup [.int p, .str ch]) (("ch", .val (.str ch)) :: ("pos", .val (.int p)) :: τ) := AsV.tup (AsL.cons (AsV.name (.inl rfl)) (AsL.cons (AsV.name (.inl rfl)) AsL.nil)) rfl (fun _ => rfl)
    by_cases h1 : (ch == [40]) = true
    · have e : checkRun ((p, ch) :: items) o = checkRun items (o + 1) := by simp only [checkRun, h1, if_true]
      rw [e]
      exact ExF.next tgt (Ex.cons (Ex1.if_ (c := true) (EvT.to (EvT.cmp (Ev.nm rfl) (Ev.cStr rfl) CmpV.eqS rfl) h1) (Ex.cons (Ex1.aug rfl Ev.cInt InV.addI (.inl rfl)) Ex.nil)) (Ex.fin (τ' := [("opens", .val (.int (o + 1)))]) ⟨rfl, trivial⟩)) (ih (o + 1))
    · have h1' : (ch == [40]) = false := by simpa using h1
      by_cases h2 : (ch == [41]) = true
      · by_cases h3 : o - 1 < 0
        · have e : checkRun ((p, ch) :: items) o = none := by simp only [checkRun, h1', h2, decide_eq_true h3, if_true]; rfl
          rw [e]
          refine ExF.ret tgt (Ex.stop (Ex1.if_ (c := false) (EvT.to (EvT.cmp (Ev.nm rfl) (Ev.cStr rfl) CmpV.eqS rfl) h1') (Ex.stop (Ex1.if_ (c := true) (EvT.to (EvT.cmp (Ev.nm rfl) (Ev.cStr rfl) CmpV.eqS rfl) h2) (Ex.cons (Ex1.aug rfl Ev.cInt InV.subI (.inl rfl))
            (Ex.stop (Ex1.if_ (c := true) (EvT.to (EvT.cmp (Ev.nm rfl) Ev.cInt CmpV.ltI rfl) (decide_eq_true h3)) (Ex.stop (Ex1.ret Ev.cBool) rfl)) rfl))) rfl)) rfl)
        · have e : checkRun ((p, ch) :: items) o = checkRun items (o - 1) := by simp only [checkRun, h1', h2, decide_eq_false h3, if_true]; rfl
          rw [e]
          exact ExF.next tgt (Ex.cons (Ex1.if_ (c := false) (EvT.to (EvT.cmp (Ev.nm rfl) (Ev.cStr rfl) CmpV.eqS rfl) h1') (Ex.cons (Ex1.if_ (c := true) (EvT.to (EvT.cmp (Ev.nm rfl) (Ev.cStr rfl) CmpV.eqS rfl) h2) (Ex.cons (Ex1.aug rfl Ev.cInt InV.subI (.inl rfl))
            (Ex.cons (Ex1.if_ (c := false) (EvT.to (EvT.cmp (Ev.nm rfl) Ev.cInt CmpV.ltI rfl) (decide_eq_false h3)) Ex.nil) Ex.nil))) Ex.nil)) (Ex.fin (τ' := [("opens", .val (.int (o - 1)))]) ⟨rfl, trivial⟩)) (ih (o - 1))
      · have h2' : (ch == [41]) = false := by simpa using h2
        have e : checkRun ((p, ch) :: items) o = checkRun items o := by simp only [checkRun, h1', h2']; rfl
        rw [e]
        exact ExF.next tgt (Ex.cons (Ex1.if_ (c := false) (EvT.to (EvT.cmp (Ev.nm rfl) (Ev.cStr rfl) CmpV.eqS rfl) h1') (Ex.cons (Ex1.if_ (c := false) (EvT.to (EvT.cmp (Ev.nm rfl) (Ev.cStr rfl) CmpV.eqS rfl) h2') Ex.nil) Ex.nil)) (Ex.fin (τ' := [("opens", .val (.int o))]) ⟨rfl, trivial⟩)) (ih o)
theorem fn_check (T : Top1 G) (h40 : 40 ≤ n) (hn : n ≤ 900) (hm : dCheck ∈ recsOf G.p) (hms : dStrip ∈ recsOf G.p) (hmi : dIter ∈ recsOf G.p) (addr : Tx) (hl : addr.length ≤ 900) : Fn G (n + 2) "_check_parenthesis" [.str addr] (.bool (checkP addr)) := by
  refine Fn.intro (d := dCheck) (ns := ["addr"]) hm (by rfl) ?_ (by decide) (by decide +kernel) (by decide +kernel) rfl rfl rfl ?_
  · intro pm code doc vs hv
    (apply len1 hv; exact fun _ => rfl)
  · refine Ex.cons (Ex1.assign (Ev.callF (by decide) rfl (EvL.cons (Ev.nm rfl) EvL.nil (fun _ => rfl)) hms (by rfl) (fn_strip T h40 (by omega) hms hmi addr hl) (fun _ _ => rfl)) (.inl rfl) (fun _ => rfl)) ?_
    refine Ex.cons (Ex1.assign Ev.cInt (.inl rfl) (fun _ => rfl)) ?_
    have key := check_for (G := G) (n := n + 1) (escGo 0 false (stripQ addr)) 0
    unfold checkP
    cases hc : checkRun (escGo 0 false (stripQ addr)) 0 with
    | none =>
      rw [hc] at key
      exact Ex.stop (Ex1.for_ (EvI.esc (c := stripQ addr) T (by omega) (by omega) hmi rfl rfl (Ev.nm rfl) (fun _ _ => rfl) (fun _ => rfl)) (ExF.weak key (subL.out ⟨rfl, trivial⟩)) (fun _ _ => rfl)) rfl
    | some o =>
      rw [hc] at key
      exact Ex.cons (Ex1.for_ (EvI.esc (c := stripQ addr) T (by omega) (by omega) hmi rfl rfl (Ev.nm rfl) (fun _ _ => rfl) (fun _ => rfl)) (ExF.weak key (subL.out ⟨rfl, trivial⟩)) (fun _ _ => rfl)) (Ex.stop (Ex1.ret (Ev.cmp (Ev.nm rfl) Ev.cInt CmpV.eqI rfl)) rfl)
theorem fn_coll (hm : dColl ∈ recsOf G.p) (a b : Tx) : Fn G (n + 1) "_strcoll" [.str a, .str b] (.int (bi (decide (b < a)) - bi (decide (a < b)))) := by
  refine Fn.intro (d := dColl) (ns := ["a", "b"]) hm (by rfl) ?_ (by decide) (by decide +kernel) (by decide +kernel) rfl rfl rfl ?_
  · intro pm code doc vs hv
    (apply len2 hv; exact fun _ _ => rfl)
  · exact Ex.stop (Ex1.ret (Ev.bin (Ev.cmp (Ev.nm rfl) (Ev.nm rfl) CmpV.gtS rfl) (Ev.cmp (Ev.nm rfl) (Ev.nm rfl) CmpV.ltS rfl) BinV.subB)) rfl
end
end Mine
namespace Mine

abbrev dGrown : DefRec := defAt P 12
abbrev dLet : DefRec := defAt P 13
abbrev dWords : DefRec := defAt P 14
abbrev dProd : DefRec := defAt P 15
abbrev dSizes : DefRec := defAt P 16
abbrev dRuler : DefRec := defAt P 17
abbrev dCut : DefRec := defAt P 18
abbrev dInOrd : DefRec := defAt P 19
abbrev dEnds : DefRec := defAt P 20
abbrev dLaw : DefRec := defAt P 21

def grownF : Nat → Tx → Tx × Tx
  | 0, _ => ([], [])
  | k + 1, w => match w.getLast? with
    | none => ([], [])
    | some top =>
      let a := grownF k (w.dropLast.filter fun x => !decide (top < x))
      let b := grownF k (w.dropLast.filter fun x => decide (top < x))
      ([40] ++ a.1 ++ [top] ++ b.1 ++ [41], a.2 ++ b.2 ++ [top])
theorem filter_two (p : Nat → Bool) : ∀ l : Tx, (l.filter fun x => !p x).length + (l.filter p).length = l.length
  | [] => rfl
  | a :: l => by
    have := filter_two p l
    cases h : p a <;> simp [h] at * <;> omega
theorem grownF_len : ∀ (k : Nat) (w : Tx), w.length ≤ k → (grownF k w).1.length = 3 * w.length ∧ (grownF k w).2.length = w.length
  | 0, w, h => by
    have : w = [] := List.length_eq_zero_iff.mp (by omega)
    subst this; exact ⟨rfl, rfl⟩
  | k + 1, w, h => by
    unfold grownF
    cases hl : w.getLast? with
    | none =>
      have : w = [] := List.getLast?_eq_none_iff.mp hl
      subst this; exact ⟨rfl, rfl⟩
    | some top =>
      have hd : w.dropLast.length = w.length - 1 := List.length_dropLast
      have hpos : w ≠ [] := fun e => by rw [e] at hl; cases hl
      have hp : 0 < w.length := List.length_pos_iff.mpr hpos
      have hf : (w.dropLast.filter fun x => !decide (top < x)).length + (w.dropLast.filter fun x => decide (top < x)).length = w.dropLast.length :=
        filter_two (fun x => decide (top < x)) w.dropLast
      have h1 := grownF_len k (w.dropLast.filter fun x => !decide (top < x)) (by have := List.length_filter_le (fun x => !decide (top < x)) w.dropLast; omega)
      have h2 := grownF_len k (w.dropLast.filter fun x => decide (top < x)) (by have := List.length_filter_le (fun x => decide (top < x)) w.dropLast; omega)
      simp only [List.length_append, List.length_cons, List.length_nil]
      omega

section
variable {G : Gc} {n : Nat} {σ : Loc}
set_option maxHeartbeats 1000000

theorem join_signs {sc : Scope} {e : Expr} {l : Tx} {ob : Expr} {a p : Pos} (h0 : Ev G n sc σ ob (.str [])) (h1 : Ev G n sc σ e (.list (l.map fun x => .str [x]))) (hl : l.length ≤ 1000000)
    (hbase : ∀ env, attributeBase ob "join" env (eval ob env) = eval ob env)
    (hfew : ∀ env, ((backTo p (starEach [e] env)).all (fun x => !x.1) && (backToKw p (keywordEach [] env)).all (fun x => x.1.isSome)
      && decide ([e].length + ([] : List Keyword).length + (if ([] : List Keyword).isEmpty then 0 else 1) < 30)) = true)
    (hline : (a.endLine == p.line) = true) (hse : ∀ env, starEach [e] env = (false, eval e env) :: starEach [] env)
    (he : ∀ env pos, backTo pos (starEach [e] env) = (false, eval e env) :: backTo pos (starEach [] env)) (hs : ∀ env pos, (backTo pos (starEach [e] env)).any (·.1) = false) :
    Ev G n sc σ (.Call (.Attribute ob "join" a) [e] [] p) (.str l) := by
  have h1' : Ev G n sc σ e (.list (sts (l.map fun x => [x]))) := h1.to (by rw [sts_ones])
  exact (Ev.methS PySem.F.slot_str_join PySem.F.type_str_join h0 (EvL.cons h1' EvL.nil hse) (CallV.join (by rw [joinW_ones]; exact hl)) hbase hfew hline he hs).to (by rw [joinT_ones])

theorem fn_grown (hm : dGrown ∈ recsOf G.p) (n : Nat) : ∀ (k : Nat) (w : Tx), w.length ≤ k → k ≤ 100 → Fn G (n + k + 1) "_law_grown" [.str w] (.tup [.str (grownF k w).1, .str (grownF k w).2]) := by
  intro k
  induction k with
  | zero =>
    intro w hw hk
    have : w = [] := List.length_eq_zero_iff.mp (by omega)
    subst this
    refine Fn.intro (d := dGrown) (ns := ["word"]) hm (by rfl) ?_ (by decide) (by decide +kernel) (by decide +kernel) rfl rfl rfl ?_
    · intro pm code doc vs hv
      (apply len1 hv; exact fun _ => rfl)
    · exact Ex.stop (Ex1.if_ (c := true) (EvT.cmp (Ev.nm (pv := .str []) rfl) (Ev.cStr (c := []) rfl) CmpV.eqS rfl) (Ex.stop (Ex1.ret (Ev.mkT (xs := [.str [], .str []]) (EvL.cons (Ev.cStr rfl) (EvL.cons (Ev.cStr rfl) EvL.nil (fun _ => rfl)) (fun _ => rfl)) (by simp))) rfl)) rfl
  | succ k ih =>
    intro w hw hk
    refine Fn.intro (d := dGrown) (ns := ["word"]) hm (by rfl) ?_ (by decide) (by decide +kernel) (by decide +kernel) rfl rfl rfl ?_
    · intro pm code doc vs hv
      (apply len1 hv; exact fun _ => rfl)
    · cases hl : w.getLast? with
      | none =>
        have : w = [] := List.getLast?_eq_none_iff.mp hl
        subst this
        exact Ex.stop (Ex1.if_ (c := true) (EvT.cmp (Ev.nm (pv := .str []) rfl) (Ev.cStr (c := []) rfl) CmpV.eqS rfl) (Ex.stop (Ex1.ret (Ev.mkT (xs := [.str [], .str []]) (EvL.cons (Ev.cStr rfl) (EvL.cons (Ev.cStr rfl) EvL.nil (fun _ => rfl)) (fun _ => rfl)) (by simp))) rfl)) rfl
      | some top =>
        have hne : w ≠ [] := fun e => by rw [e] at hl; cases hl
        have hp : 0 < w.length := List.length_pos_iff.mpr hne
        have hd : w.dropLast.length = w.length - 1 := List.length_dropLast
        have hf1 := List.length_filter_le (fun x => !decide (top < x)) w.dropLast
        have hf2 := List.length_filter_le (fun x => decide (top < x)) w.dropLast
        have ea := grownF_len k (w.dropLast.filter fun x => !decide (top < x)) (by omega)
        have eb := grownF_len k (w.dropLast.filter fun x => decide (top < x)) (by omega)
        have eg : grownF (k + 1) w = ([40] ++ (grownF k (w.dropLast.filter fun x => !decide (top < x))).1 ++ [top] ++ (grownF k (w.dropLast.filter fun x => decide (top < x))).1 ++ [41], (grownF k (w.dropLast.filter fun x => !decide (top < x))).2 ++ (grownF k (w.dropLast.filter fun x => decide (top < x))).2 ++ [top]) := by
          simp only [grownF, hl]
        rw [eg]
        have iha := ih (w.dropLast.filter fun x => !decide (top < x)) (by omega) (by omega)
        have ihb := ih (w.dropLast.filter fun x => decide (top < x)) (by omega) (by omega)
        generalize grownF k (w.dropLast.filter fun x => !decide (top < x)) = ga at *
        generalize grownF k (w.dropLast.filter fun x => decide (top < x)) = gb at *
        refine Ex.cons (Ex1.if_ (c := false) (EvT.to (EvT.cmp (Ev.nm rfl) (Ev.cStr (c := []) rfl) CmpV.eqS rfl) (by simpa using hne)) Ex.nil) ?_
        refine Ex.cons (Ex1.assign (Ev.idxS (x := top) (Ev.nm rfl) (Ev.neg Ev.cInt) (by rw [getI_last]; exact hl) (by omega) (fun _ _ => rfl)) (.inr rfl) (fun _ => rfl)) ?_
        refine Ex.cons (Ex1.assignT (Ev.callF (by decide) rfl (EvL.cons (join_signs (l := w.dropLast.filter fun x => !decide (top < x)) (Ev.cStr (c := []) rfl)
            (Ev.compr [("top", .val (.str [top]))] (EvI.str (Ev.to (Ev.slcS (Ev.nm rfl) EvP.no (EvP.at (Ev.neg Ev.cInt)) (by omega)) (congrArg PV.str (slc_init w)))) (by simp [signs]; omega) rfl ⟨rfl, trivial⟩ rfl (fun _ _ => rfl)
              (CompOk.map (fun a => .str [a]) (fun x => !decide (top < x)) (fun a => .str [a]) w.dropLast fun a ha => ⟨_, AsV.name (.inl rfl), Tests.cond (EvT.cmp (Ev.nm rfl) (Ev.nm rfl) CmpV.leS rfl) (by rw [one_dec]), fun _ => Ev.nm rfl, ⟨rfl, trivial⟩⟩))
            (by omega) (fun _ => rfl) (fun _ => rfl) rfl (fun _ => rfl) (fun _ _ => rfl) (fun _ _ => rfl)) EvL.nil (fun _ => rfl)) hm rfl iha (fun _ _ => rfl)) (AsV.tup (AsL.cons (AsV.name (.inl rfl)) (AsL.cons (AsV.name (.inl rfl)) AsL.nil)) rfl (fun _ => rfl)) (fun _ => rfl) (fun _ => rfl)) ?_
        refine Ex.cons (Ex1.assignT (Ev.callF (by decide) rfl (EvL.cons (join_signs (l := w.dropLast.filter fun x => decide (top < x)) (Ev.cStr (c := []) rfl)
            (Ev.compr [("top", .val (.str [top]))] (EvI.str (Ev.to (Ev.slcS (Ev.nm rfl) EvP.no (EvP.at (Ev.neg Ev.cInt)) (by omega)) (congrArg PV.str (slc_init w)))) (by simp [signs]; omega) rfl ⟨rfl, trivial⟩ rfl (fun _ _ => rfl)
              (CompOk.map (fun a => .str [a]) (fun x => decide (top < x)) (fun a => .str [a]) w.dropLast fun a ha => ⟨_, AsV.name (.inl rfl), Tests.cond (EvT.cmp (Ev.nm rfl) (Ev.nm rfl) CmpV.gtS rfl) (by rw [one_dec]), fun _ => Ev.nm rfl, ⟨rfl, trivial⟩⟩))
            (by omega) (fun _ => rfl) (fun _ => rfl) rfl (fun _ => rfl) (fun _ _ => rfl) (fun _ _ => rfl)) EvL.nil (fun _ => rfl)) hm rfl ihb (fun _ _ => rfl)) (AsV.tup (AsL.cons (AsV.name (.inl rfl)) (AsL.cons (AsV.name (.inl rfl)) AsL.nil)) rfl (fun _ => rfl)) (fun _ => rfl) (fun _ => rfl)) ?_
        have l1 := ea.1; have l2 := ea.2; have l3 := eb.1; have l4 := eb.2
        refine Ex.stop (Ex1.ret (Ev.mkT (EvL.cons (Ev.bin (Ev.bin (Ev.bin (Ev.bin (Ev.cStr (c := [40]) rfl) (Ev.nm rfl) (BinV.addS ?_)) (Ev.nm rfl) (BinV.addS ?_)) (Ev.nm rfl) (BinV.addS ?_)) (Ev.cStr (c := [41]) rfl) (BinV.addS ?_)) (EvL.cons (Ev.bin (Ev.bin (Ev.nm rfl) (Ev.nm rfl) (BinV.addS ?_)) (Ev.nm rfl) (BinV.addS ?_)) EvL.nil (fun _ => rfl)) (fun _ => rfl)) (by simp))) rfl
        all_goals first | omega | (simp only [List.length_append, List.length_cons, List.length_nil]; omega)
end
end Mine
namespace Mine

def chs (l : Tx) : List PV := l.map fun z => .str [z]
def letOne (one : Tx) (place a b z : Nat) : Bool := (!decide (z < a) && decide (z < b)) && ellM (one.take (place + 2) ++ dots ++ [z] ++ dots) one
def letF (one : Tx) (place : Nat) (letters : Tx) : Bool := match one[place]?, one[place + 1]? with
  | some a, some b => letters.any (letOne one place a b)
  | _, _ => false
def collI (a b : Tx) : Int := bi (decide (b < a)) - bi (decide (a < b))

section
variable {G : Gc} {n : Nat} {σ : Loc}
set_option maxHeartbeats 1000000

theorem CmpV.eqNil {xs : List PV} (h : pok 3 (.list xs) = true) : CmpV G n .Eq (.list xs) (.list []) (.bool xs.isEmpty) := by
  have := CmpV.eq (G := G) (n := n) (a := .list xs) (b := .list []) (k := 3) (m := 3) h rfl (by decide) (by decide)
  have e : peq (.list xs) (.list []) = xs.isEmpty := by cases xs <;> simp [peq, peqs]
  rw [e] at this; exact this
theorem CmpV.neNil {xs : List PV} (h : pok 3 (.list xs) = true) : CmpV G n .NotEq (.list xs) (.list []) (.bool (!xs.isEmpty)) := by
  have := CmpV.ne (G := G) (n := n) (a := .list xs) (b := .list []) (k := 3) (m := 3) h rfl (by decide) (by decide)
  have e : peq (.list xs) (.list []) = xs.isEmpty := by cases xs <;> simp [peq, peqs]
  rw [e] at this; exact this
def okT (c : Tx) : Prop := ∀ x ∈ c, x < 1114112
theorem okT_pok {c : Tx} (h : okT c) (k : Nat) : pok k (.str c) = true := by
  cases k <;> (simp only [pok, List.all_eq_true, decide_eq_true_eq]; exact h)
theorem pok_strs {l : List Tx} (h : ∀ c ∈ l, okT c) (k : Nat) : pok (k + 1) (.list (sts l)) = true := by
  simp only [pok, List.all_eq_true]
  intro x hx
  obtain ⟨c, hc, rfl⟩ := List.mem_map.mp hx
  exact okT_pok (h c hc) k
theorem pok_chs {l : Tx} (h : okT l) (k : Nat) : pok (k + 1) (.list (chs l)) = true := by
  simp only [pok, List.all_eq_true]
  intro x hx
  obtain ⟨c, hc, rfl⟩ := List.mem_map.mp hx
  exact okT_pok (fun y hy => by rw [List.mem_singleton.mp hy]; exact h c hc) k

/-- the defs of the text, all of them there -/
structure Defs (G : Gc) : Prop where
  T : Top1 G
  ell : dEll ∈ recsOf G.p
  iter : dIter ∈ recsOf G.p
  strip : dStrip ∈ recsOf G.p
  check : dCheck ∈ recsOf G.p
  coll : dColl ∈ recsOf G.p
  grp : dGrp ∈ recsOf G.p

theorem let_for (D : Defs G) (one : Tx) (place a b : Nat) (letters : Tx) (ha : one[place]? = some a) (hb : one[place + 1]? = some b) (hl : one.length ≤ 1000) : ∀ (zs : Tx),
    ExF G (n + 1) dLet.scope [("one", .val (.str one)), ("place", .val (.int place))] (forTgt (stAt dLet.body 0)) (chs zs) true (forBody (stAt dLet.body 0)) []
      (match zs.any (letOne one place a b) with | true => .ret (.bool true) | false => .next []) := by
  have hb' : place + 1 < one.length := by
    rcases Nat.lt_or_ge (place + 1) one.length with h | h
    · exact h
    · rw [List.getElem?_eq_none h] at hb; cases hb
  intro zs
  induction zs with
  | nil => exact ExF.nil (Ex.fin trivial)
  | cons z zs ih =>
    have test : EvT G (n + 1) dLet.scope [("z", .val (.str [z])), ("one", .val (.str one)), ("place", .val (.int place))] (whTest (match forBody (stAt dLet.body 0) with | .If t b o p :: _ => .While t b o p | _ => .Pass default)) (letOne one place a b z) := by
      refine EvT.to (EvT.bools (EvA.and (EvT.chain (p := !decide (z < a)) (q := decide (z < b)) (Ev.idxS (x := a) (Ev.nm rfl) (Ev.nm rfl) (by rw [getI_nat]; exact ha) (by omega) (fun _ _ => rfl)) (Ev.nm rfl) (by have := CmpV.leS (G := G) (n := n + 1) (a := [a]) (b := [z]); rw [one_dec] at this; exact this)
        (Ev.idxS (x := b) (Ev.nm rfl) (Ev.bin (Ev.nm rfl) Ev.cInt BinV.addI) (by show getI one ((place + 1 : Nat) : Int) = some b; rw [getI_nat]; exact hb) (by omega) (fun _ _ => rfl)) (by have := CmpV.ltS (G := G) (n := n + 1) (a := [z]) (b := [b]); rw [one_dec] at this; exact this) (by with_unfolding_all rfl))
        (fun _ => EvA.and (b := true) (EvT.cmp (a := .bool (ellM (one.take (place + 2) ++ dots ++ [z] ++ dots) one)) (b := .bool true) (Ev.callF (by decide) rfl (EvL.cons (Ev.bin (Ev.bin (Ev.bin (Ev.to (Ev.slcS (Ev.nm rfl) EvP.no (EvP.at (Ev.bin (Ev.nm rfl) Ev.cInt BinV.addI)) (by omega)) (congrArg PV.str (slc_to one (place + 2) (by omega))))
            (Ev.cStr (c := dots) rfl) (BinV.addS (by simp; omega))) (Ev.nm rfl) (BinV.addS (by simp; omega))) (Ev.cStr (c := dots) rfl) (BinV.addS (by simp; omega))) (EvL.cons (Ev.nm rfl) EvL.nil (fun _ => rfl)) (fun _ => rfl)) D.ell (by rfl)
            (fn_ell D.T D.ell _ _ (by simp; omega) (by omega)) (fun _ _ => rfl)) Ev.cBool (CmpV.is rfl) rfl) (fun _ => EvA.and0)))) ?_
      unfold letOne
      cases ellM (one.take (place + 2) ++ dots ++ [z] ++ dots) one <;> cases (!decide (z < a) && decide (z < b)) <;> rfl
    cases hz : letOne one place a b z with
    | true =>
      rw [hz] at test
      have : (z :: zs).any (letOne one place a b) = true := by simp [hz]
      rw [this]
      exact ExF.ret (AsV.name (.inl rfl)) (Ex.stop (Ex1.if_ (c := true) test (Ex.stop (Ex1.ret Ev.cBool) rfl)) rfl)
    | false =>
      rw [hz] at test
      have : (z :: zs).any (letOne one place a b) = zs.any (letOne one place a b) := by simp [hz]
      rw [this]
      exact ExF.next (AsV.name (.inl rfl)) (Ex.cons (Ex1.if_ (c := false) test Ex.nil) (Ex.fin (τ' := [("one", .val (.str one)), ("place", .val (.int place))]) ⟨rfl, rfl, trivial⟩)) ih
theorem fn_let (D : Defs G) (hm : dLet ∈ recsOf G.p) (one : Tx) (place : Nat) (letters : Tx) (hp : place + 1 < one.length) (hl : one.length ≤ 1000) : Fn G (n + 2) "_law_let" [.str one, .int place, .list (chs letters)] (.bool (letF one place letters)) := by
  refine Fn.intro (d := dLet) (ns := ["one", "place", "letters"]) hm (by rfl) ?_ (by decide) (by decide +kernel) (by decide +kernel) rfl rfl rfl ?_
  · intro pm code doc vs hv
    (apply len3 hv; exact fun _ _ _ => rfl)
  · have ha : one[place]? = some one[place] := List.getElem?_eq_getElem (by omega)
    have hb : one[place + 1]? = some one[place + 1] := List.getElem?_eq_getElem hp
    have key := let_for (n := n) D one place one[place] one[place + 1] letters ha hb hl letters
    have e : letF one place letters = letters.any (letOne one place one[place] one[place + 1]) := by unfold letF; rw [ha, hb]
    rw [e]
    cases hq : letters.any (letOne one place one[place] one[place + 1]) with
    | true =>
      rw [hq] at key
      exact Ex.stop (Ex1.for_ (EvI.list (Ev.nm rfl)) (ExF.weak key (subL.out ⟨rfl, rfl, trivial⟩)) (fun _ _ => rfl)) rfl
    | false =>
      rw [hq] at key
      exact Ex.cons (Ex1.for_ (EvI.list (Ev.nm rfl)) (ExF.weak key (subL.out ⟨rfl, rfl, trivial⟩)) (fun _ _ => rfl)) (Ex.stop (Ex1.ret Ev.cBool) rfl)
end
end Mine
namespace Mine

def nats (l : List Nat) : List PV := l.map fun (k : Nat) => PV.int (k : Int)
theorem EvI.upto {G : Gc} {n : Nat} {sc : Scope} {σ : Loc} {e : Expr} {lo : Nat} {hi : Int} (h1 : Ev G n sc σ e (.rng (lo : Int) hi 1)) (hl : lo ≤ 1000000) (hh : hi ≤ 1000000) (hh' : -1000000 ≤ hi) : EvI G n sc σ e (nats (List.range' lo (hi - lo).toNat)) true := by
  have := EvI.rng h1 (small_one (by omega) (by omega) (by omega) (by omega)) (m := (hi - lo).toNat) (rangeSize_nat _ _)
  have e2 : (List.range (hi - lo).toNat).map (fun (k : Nat) => PV.int ((lo : Int) + (k : Int) * 1)) = nats (List.range' lo (hi - lo).toNat) := by
    rw [nats, List.range'_eq_map_range, List.map_map]
    apply List.map_congr_left
    intro k _
    simp
  rw [e2] at this
  exact this

def wPlace (letters one : Tx) (p : Nat) (ws : List Tx) : List Tx := match one[p]?, one[p + 1]? with
  | some a, some b => if (collI [a] [b] == -1) && ((collI [b] [a] == 1) && letF one p letters) then
      (if (ws.filter fun old => ellM (one.take p ++ [b] ++ [a] ++ one.drop (p + 2)) old).isEmpty then ws ++ [one.take p ++ [b] ++ [a] ++ one.drop (p + 2)] else ws)
    else ws
  | _, _ => ws
def wInner (letters one : Tx) : List Nat → List Tx → List Tx
  | [], ws => ws
  | p :: r, ws => wInner letters one r (wPlace letters one p ws)
def wRun (letters : Tx) : Nat → List Tx → Nat → Option (List Tx)
  | 0, _, _ => none
  | f + 1, ws, turn => match ws[turn]? with
    | none => some ws
    | some one => wRun letters f (wInner letters one (List.range' 0 (one.length - 1)) ws) (turn + 1)
/-- words of one length -/
def wOk (L : Nat) (ws : List Tx) : Prop := ∀ w ∈ ws, w.length = L ∧ okT w

theorem wPlace_ok {L : Nat} {letters one : Tx} {p : Nat} {ws : List Tx} (h1 : one.length = L ∧ okT one) (h : wOk L ws) : wOk L (wPlace letters one p ws) ∧ (wPlace letters one p ws).length ≤ ws.length + 1 := by
  unfold wPlace
  split
  · rename_i a b ha hb
    have hb' : p + 1 < one.length := by
      rcases Nat.lt_or_ge (p + 1) one.length with h | h
      · exact h
      · rw [List.getElem?_eq_none h] at hb; cases hb
    split
    · split
      · refine ⟨fun w hw => ?_, by simp⟩
        rcases List.mem_append.mp hw with hw | hw
        · exact h w hw
        · rw [List.mem_singleton.mp hw]
          refine ⟨by simp; omega, fun x hx => ?_⟩
          have ma := List.mem_of_getElem? ha
          have mb := List.mem_of_getElem? hb
          simp only [List.mem_append, List.mem_singleton] at hx
          rcases hx with ((hx | hx) | hx) | hx
          · exact h1.2 x (List.mem_of_mem_take hx)
          · exact hx ▸ h1.2 _ mb
          · exact hx ▸ h1.2 _ ma
          · exact h1.2 x (List.mem_of_mem_drop hx)
      · exact ⟨h, Nat.le_succ _⟩
    · exact ⟨h, Nat.le_succ _⟩
  · exact ⟨h, Nat.le_succ _⟩
theorem wInner_ok {L : Nat} {letters one : Tx} (h1 : one.length = L ∧ okT one) : ∀ (ps : List Nat) (ws : List Tx), wOk L ws → wOk L (wInner letters one ps ws) ∧ (wInner letters one ps ws).length ≤ ws.length + ps.length
  | [], ws, h => ⟨h, Nat.le_refl _⟩
  | p :: r, ws, h => by
    obtain ⟨q1, q2⟩ := wPlace_ok (letters := letters) (p := p) h1 h
    obtain ⟨q3, q4⟩ := wInner_ok h1 r _ q1
    exact ⟨q3, by simp only [wInner, List.length_cons]; omega⟩

section
variable {G : Gc} {n : Nat} {σ : Loc}
set_option maxHeartbeats 1000000

abbrev wSt (one : Tx) (turn : Nat) (letters : Tx) (ws : List Tx) : Loc := [("one", .val (.str one)), ("turn", .val (.int turn)), ("letters", .val (.list (chs letters))), ("words", .own (sts ws))]
abbrev wBody : List Stmt := forBody (stAt dWords.body 2)
theorem words_for (D : Defs G) (hlet : dLet ∈ recsOf G.p) (letters one : Tx) (L turn : Nat) (h1 : one.length = L ∧ okT one) (hL : L ≤ 1000) : ∀ (ps : List Nat) (ws : List Tx), wOk L ws → (∀ p ∈ ps, p + 1 < L) → ws.length + ps.length ≤ 900000 →
    ExF G (n + 2) dWords.scope [("one", .val (.str one)), ("turn", .val (.int turn)), ("letters", .val (.list (chs letters))), ("words", .own (sts ws))] (forTgt (stAt wBody 1)) (nats ps) true (forBody (stAt wBody 1)) []
      (.next [("turn", .val (.int turn)), ("letters", .val (.list (chs letters))), ("words", .own (sts (wInner letters one ps ws)))]) := by
  intro ps
  induction ps with
  | nil => intro ws hw hp hlen; exact ExF.nil (Ex.fin ⟨rfl, rfl, rfl, trivial⟩)
  | cons p ps ih =>
    intro ws hw hp hlen
    have hp1 := hp p (.head _)
    simp only [List.length_cons] at hlen
    have ha : one[p]? = some one[p] := List.getElem?_eq_getElem (by omega)
    have hb : one[p + 1]? = some one[p + 1] := List.getElem?_eq_getElem (by omega)
    obtain ⟨q1, q2⟩ := wPlace_ok (letters := letters) (p := p) h1 hw
    have nxt := ih (wPlace letters one p ws) q1 (fun x hx => hp x (.tail _ hx)) (by omega)
    show ExF G (n + 2) dWords.scope _ _ (PV.int p :: nats ps) true _ [] (.next [("turn", .val (.int turn)), ("letters", .val (.list (chs letters))), ("words", .own (sts (wInner letters one ps (wPlace letters one p ws))))])
    generalize hga : one[p] = a at *
    generalize hgb : one[p + 1] = b at *
    have hl := h1.1
    have sw : Ex1 G (n + 2) dWords.scope [("place", .val (.int p)), ("one", .val (.str one)), ("turn", .val (.int turn)), ("letters", .val (.list (chs letters))), ("words", .own (sts ws))] (stAt (forBody (stAt wBody 1)) 0)
        (.next [("first", .val (.str [a])), ("second", .val (.str [b])), ("place", .val (.int p)), ("one", .val (.str one)), ("turn", .val (.int turn)), ("letters", .val (.list (chs letters))), ("words", .own (sts ws))]) :=
      Ex1.assignSw (a := "first") (b := "second") (x := .str [a]) (y := .str [b]) (Ev.mkT (EvL.cons (Ev.idxS (x := a) (Ev.nm rfl) (Ev.nm rfl) (by rw [getI_nat]; exact ha) (by omega) (fun _ _ => rfl)) (EvL.cons (Ev.idxS (x := b) (Ev.nm rfl) (Ev.bin (Ev.nm rfl) Ev.cInt BinV.addI) (by show getI one ((p + 1 : Nat) : Int) = some b; rw [getI_nat]; exact hb) (by omega) (fun _ _ => rfl)) EvL.nil (fun _ => rfl)) (fun _ => rfl)) (by simp)) (.inl rfl) (.inl rfl) (fun _ => rfl) (fun F h => by cases F; subst h; rfl)
    have test : EvT G (n + 2) dWords.scope [("first", .val (.str [a])), ("second", .val (.str [b])), ("place", .val (.int p)), ("one", .val (.str one)), ("turn", .val (.int turn)), ("letters", .val (.list (chs letters))), ("words", .own (sts ws))]
        (match stAt (forBody (stAt wBody 1)) 1 with | .If t _ _ _ => t | _ => default) ((collI [a] [b] == -1) && ((collI [b] [a] == 1) && letF one p letters)) := by
      refine EvT.to (EvT.bools (EvA.and (a := collI [a] [b] == -1) (EvT.cmp (a := .int (collI [a] [b])) (Ev.callF (by decide) rfl (EvL.cons (Ev.nm rfl) (EvL.cons (Ev.nm rfl) EvL.nil (fun _ => rfl)) (fun _ => rfl)) D.coll (by rfl) (fn_coll D.coll [a] [b]) (fun _ _ => rfl)) (Ev.neg Ev.cInt) CmpV.eqI rfl)
        (fun _ => EvA.and (a := collI [b] [a] == 1) (EvT.cmp (a := .int (collI [b] [a])) (Ev.callF (by decide) rfl (EvL.cons (Ev.nm rfl) (EvL.cons (Ev.nm rfl) EvL.nil (fun _ => rfl)) (fun _ => rfl)) D.coll (by rfl) (fn_coll D.coll [b] [a]) (fun _ _ => rfl)) Ev.cInt CmpV.eqI rfl)
          (fun _ => EvA.and (a := letF one p letters) (b := true) (EvT.val (Ev.callF (by decide) rfl (EvL.cons (Ev.nm rfl) (EvL.cons (Ev.nm rfl) (EvL.cons (Ev.nm rfl) EvL.nil (fun _ => rfl)) (fun _ => rfl)) (fun _ => rfl)) hlet (by rfl) (fn_let D hlet one p letters (by omega) (by omega)) (fun _ _ => rfl)) rfl (fun _ e => by cases e) (fun _ e => by cases e) (fun _ => rfl)) (fun _ => EvA.and0))))) ?_
      simp
    have ew : wPlace letters one p ws = if (collI [a] [b] == -1) && ((collI [b] [a] == 1) && letF one p letters) then
      (if (ws.filter fun old => ellM (one.take p ++ [b] ++ [a] ++ one.drop (p + 2)) old).isEmpty then ws ++ [one.take p ++ [b] ++ [a] ++ one.drop (p + 2)] else ws) else ws := by
      unfold wPlace; rw [ha, hb]
    cases ht : ((collI [a] [b] == -1) && ((collI [b] [a] == 1) && letF one p letters)) with
    | false =>
      rw [ht] at test ew
      rw [if_neg Bool.false_ne_true] at ew
      rw [ew] at nxt ⊢
      exact ExF.next (τ' := wSt one turn letters ws) (AsV.name (.inl rfl)) (Ex.cons sw (Ex.cons (Ex1.if_ (c := false) test Ex.nil) (Ex.fin ⟨rfl, rfl, rfl, rfl, trivial⟩))) nxt
    | true =>
      rw [ht] at test ew
      rw [if_pos rfl] at ew
      have hnew : (one.take p ++ [b] ++ [a] ++ one.drop (p + 2)).length ≤ 1000 := by simp; omega
      have asg : Ex1 G (n + 2) dWords.scope [("first", .val (.str [a])), ("second", .val (.str [b])), ("place", .val (.int p)), ("one", .val (.str one)), ("turn", .val (.int turn)), ("letters", .val (.list (chs letters))), ("words", .own (sts ws))]
          (stAt (forBody (stAt (forBody (stAt wBody 1)) 1)) 0) (.next (("new", .val (.str (one.take p ++ [b] ++ [a] ++ one.drop (p + 2)))) :: [("first", .val (.str [a])), ("second", .val (.str [b])), ("place", .val (.int p)), ("one", .val (.str one)), ("turn", .val (.int turn)), ("letters", .val (.list (chs letters))), ("words", .own (sts ws))])) :=
        Ex1.assign (Ev.bin (Ev.bin (Ev.bin (Ev.to (Ev.slcS (Ev.nm rfl) EvP.no (EvP.at (Ev.nm rfl)) (by omega)) (congrArg PV.str (slc_to one p (by omega)))) (Ev.nm rfl) (BinV.addS (by simp; omega))) (Ev.nm rfl) (BinV.addS (by simp; omega)))
          (Ev.to (Ev.slcS (Ev.nm rfl) (EvP.at (Ev.bin (Ev.nm rfl) Ev.cInt BinV.addI)) EvP.no (by omega)) (congrArg PV.str (slc_from one (p + 2) (by omega)))) (BinV.addS (by simp; omega))) (.inr rfl) (fun _ => rfl)
      generalize one.take p ++ [b] ++ [a] ++ one.drop (p + 2) = new at *
      have cmp : EvT G (n + 2) dWords.scope (("new", .val (.str new)) :: [("first", .val (.str [a])), ("second", .val (.str [b])), ("place", .val (.int p)), ("one", .val (.str one)), ("turn", .val (.int turn)), ("letters", .val (.list (chs letters))), ("words", .own (sts ws))])
          (match stAt (forBody (stAt (forBody (stAt wBody 1)) 1)) 1 with | .If t _ _ _ => t | _ => default) ((ws.filter fun old => ellM new old).isEmpty) := by
        refine EvT.borrow (x := "words") (xs := sts ws) rfl (EvT.to (EvT.cmp (Ev.compr [("new", .val (.str new))] (EvI.list (Ev.nm rfl)) (by rw [sts_len]; omega) rfl ⟨rfl, trivial⟩ rfl (fun _ _ => rfl)
          (CompOk.map (fun w => .str w) (fun old => ellM new old) (fun w => .str w) ws fun w hw' => ⟨_, AsV.name (.inl rfl), Tests.cond (EvT.cmp (a := .bool (ellM new w)) (b := .bool true) (Ev.callF (by decide) rfl (EvL.cons (Ev.nm rfl) (EvL.cons (Ev.nm rfl) EvL.nil (fun _ => rfl)) (fun _ => rfl)) D.ell (by rfl) (fn_ell D.T D.ell new w (by omega) (by have := (hw w hw').1; omega)) (fun _ _ => rfl)) Ev.cBool (CmpV.is rfl) rfl) (by cases ellM new w <;> rfl), fun _ => Ev.nm rfl, ⟨rfl, trivial⟩⟩))
          (Ev.mkL EvL.nil (by simp)) (CmpV.eqNil (pok_strs (l := ws.filter fun old => ellM new old) (fun c hc => (hw c (List.mem_filter.mp hc).1).2) 2)) rfl) ?_)
        rw [Bool.eq_iff_iff]; simp
      cases hf : (ws.filter fun old => ellM new old).isEmpty with
      | true =>
        rw [hf] at cmp ew
        rw [if_pos rfl] at ew
        rw [ew] at nxt ⊢
        refine ExF.next (τ' := wSt one turn letters (ws ++ [new])) (AsV.name (.inl rfl)) (Ex.cons sw (Ex.cons (Ex1.if_ (c := true) test (Ex.cons asg (Ex.cons (Ex1.if_ (c := true) cmp
          (Ex.cons (Ex1.append (xs := sts ws) rfl (Ev.nm rfl) (by decide) (by rw [sts_len]; omega) (fun _ => rfl) (fun _ _ => rfl) (fun _ => rfl) rfl (fun _ => rfl)) Ex.nil)) Ex.nil))) (Ex.fin ?_))) nxt
        exact ⟨rfl, rfl, rfl, (by show some (Slot.own (sts ws ++ [.str new])) = _; simp [sts]), trivial⟩
      | false =>
        rw [hf] at cmp ew
        rw [if_neg Bool.false_ne_true] at ew
        rw [ew] at nxt ⊢
        refine ExF.next (τ' := wSt one turn letters ws) (AsV.name (.inl rfl)) (Ex.cons sw (Ex.cons (Ex1.if_ (c := true) test (Ex.cons asg (Ex.cons (Ex1.if_ (c := false) cmp Ex.nil) Ex.nil))) (Ex.fin ?_))) nxt
        exact ⟨rfl, rfl, rfl, rfl, trivial⟩

theorem words_while (D : Defs G) (hlet : dLet ∈ recsOf G.p) (letters : Tx) (L : Nat) (hL : L ≤ 1000) (hL0 : 0 < L) : ∀ (f : Nat) (ws : List Tx) (turn : Nat) (r : List Tx), wRun letters f ws turn = some r → wOk L ws → ws.length + f * L ≤ 900000 → turn ≤ 900000 →
    ExW G (n + 2) dWords.scope [("turn", .val (.int turn)), ("letters", .val (.list (chs letters))), ("words", .own (sts ws))] (whTest (stAt dWords.body 2)) wBody [] (.next [("words", .own (sts r))]) := by
  intro f
  induction f with
  | zero => intro ws turn r h; cases h
  | succ f ih =>
    intro ws turn r h hw hlen ht
    have hfl : (f + 1) * L = f * L + L := Nat.succ_mul f L
    have test : ∀ b, decide (turn < ws.length) = b → EvT G (n + 2) dWords.scope [("turn", .val (.int turn)), ("letters", .val (.list (chs letters))), ("words", .own (sts ws))] (whTest (stAt dWords.body 2)) b := fun b hb =>
      EvT.borrow (x := "words") (xs := sts ws) rfl (EvT.to (EvT.cmp (Ev.nm rfl) (Ev.callB D.T.nb (by decide +kernel) (by decide) (by decide) (by decide) rfl (EvL.cons (Ev.nm rfl) EvL.nil (fun _ => rfl)) (CallV.lenL (by rw [sts_len]; omega)) (fun _ _ => rfl) (fun _ _ => rfl)) CmpV.ltI rfl) (by rw [← hb, sts_len, Bool.eq_iff_iff]; simp))
    cases ho : ws[turn]? with
    | none =>
      have hr : ws = r := by simp only [wRun, ho] at h; exact Option.some.inj h
      subst hr
      have hge : ws.length ≤ turn := List.getElem?_eq_none_iff.mp ho
      exact ExW.stop (test false (decide_eq_false (by omega))) (Ex.fin ⟨rfl, trivial⟩)
    | some one =>
      have hlt : turn < ws.length := by
        rcases Nat.lt_or_ge turn ws.length with h | h
        · exact h
        · rw [List.getElem?_eq_none h] at ho; cases ho
      have hr : wRun letters f (wInner letters one (List.range' 0 (one.length - 1)) ws) (turn + 1) = some r := by simp only [wRun, ho] at h; exact h
      have hone := hw one (List.mem_of_getElem? ho)
      obtain ⟨q1, q2⟩ := wInner_ok (letters := letters) hone (List.range' 0 (one.length - 1)) ws hw
      rw [List.length_range'] at q2
      have nxt := ih _ (turn + 1) r hr q1 (by omega) (by omega)
      have hol := hone.1
      have eto : ((one.length : Int) - 1 - ((0 : Nat) : Int)).toNat = one.length - 1 := by omega
      refine ExW.next (τ := [("turn", .val (.int ((turn + 1 : Nat) : Int))), ("letters", .val (.list (chs letters))), ("words", .own (sts (wInner letters one (List.range' 0 (one.length - 1)) ws)))]) (test true (decide_eq_true hlt)) ?_ nxt
      refine Ex.cons (Ex1.assign (Ev.borrow (x := "words") (xs := sts ws) (pv := .str one) rfl (Ev.idxL (Ev.nm rfl) (Ev.nm rfl) (by rw [getI_nat, sts, List.getElem?_map, ho]; rfl) (by rw [sts_len]; omega) (fun _ _ => rfl)) rfl) (.inl rfl) (fun _ => rfl)) ?_
      refine Ex.cons (Ex1.for_ (EvI.upto (lo := 0) (Ev.callT D.T.nb (by decide +kernel) (by decide) (by decide) (by decide) rfl (EvL.cons (Ev.bin (Ev.callB D.T.nb (by decide +kernel) (by decide) (by decide) (by decide) rfl (EvL.cons (Ev.nm rfl) EvL.nil (fun _ => rfl)) (CallV.lenS (by omega)) (fun _ _ => rfl) (fun _ _ => rfl)) Ev.cInt BinV.subI) EvL.nil (fun _ => rfl)) CallV.range1 (fun _ _ => rfl) (fun _ _ => rfl)) (by omega) (by omega) (by omega))
        (by rw [eto]; exact ExF.weak (words_for D hlet letters one L turn hone hL _ ws hw (fun p hp => by have := List.mem_range'_1.mp hp; omega) (by rw [List.length_range']; omega)) (subL.out ⟨rfl, rfl, rfl, rfl, trivial⟩)) (fun _ _ => rfl)) ?_
      exact Ex.cons (Ex1.aug rfl Ev.cInt InV.addI (.inl rfl)) (Ex.fin ⟨rfl, rfl, rfl, trivial⟩)
theorem fn_words (D : Defs G) (hlet : dLet ∈ recsOf G.p) (hm : dWords ∈ recsOf G.p) (least letters : Tx) (f : Nat) (r : List Tx) (hL : least.length ≤ 1000) (hL0 : 0 < least.length) (hok : okT least) (hf : f * least.length ≤ 800000) (h : wRun letters f [least] 0 = some r) :
    Fn G (n + 3) "_law_words" [.str least, .list (chs letters)] (.list (sts r)) := by
  refine Fn.intro (d := dWords) (ns := ["least", "letters"]) hm (by rfl) ?_ (by decide) (by decide +kernel) (by decide +kernel) rfl rfl rfl ?_
  · intro pm code doc vs hv
    (apply len2 hv; exact fun _ _ => rfl)
  · refine Ex.cons (Ex1.assignOwn (EvN.disp (xs := sts [least]) (EvL.cons (Ev.nm rfl) EvL.nil (fun _ => rfl)) (by simp [sts])) rfl (fun _ => rfl)) ?_
    refine Ex.cons (Ex1.assign Ev.cInt (.inl rfl) (fun _ => rfl)) ?_
    refine Ex.cons (Ex1.while_ (ExW.weak (words_while D hlet letters least.length hL hL0 f [least] 0 r h (fun w hw => by rw [List.mem_singleton.mp hw]; exact ⟨rfl, hok⟩) (by simp; omega) (by omega)) ⟨rfl, rfl, rfl, trivial⟩)) ?_
    exact Ex.freeze (x := "words") (xs := sts r) rfl (Ex.stop (Ex1.ret (Ev.nm rfl)) rfl)
end
end Mine
namespace Mine

def notPar (x : Nat) : Bool := !subIn [x] [40, 41]
def placesOf (text : Tx) (c lo : Nat) : List Nat := (List.range' lo (text.length - lo)).filter fun k => text[k]? == some c
def prodEnd (text : Tx) (b : Nat) : List Nat → Nat → Nat
  | [], p => p
  | e :: r, p => if checkP (slcN text b (e + 1)) then p * ((slcN text b e).filter notPar).length else prodEnd text b r p
def prodGo (text : Tx) : List Nat → Nat → Nat
  | [], p => p
  | b :: r, p => prodGo text r (prodEnd text b (placesOf text 41 b) p)
def prodF (text : Tx) : Nat := prodGo text (placesOf text 40 0) 1

section
variable {G : Gc} {n : Nat} {σ : Loc}
set_option maxHeartbeats 1000000

theorem get_dec {text : Tx} {k c : Nat} (h : k < text.length) : ([text[k]] == ([c] : Tx)) = (text[k]? == some c) := by
  rw [List.getElem?_eq_getElem h, Bool.eq_iff_iff]; simp
theorem mem_upto {k lo m : Nat} (h : k ∈ List.range' lo m) : lo ≤ k ∧ k < lo + m := List.mem_range'_1.mp h

abbrev pInner : List Stmt := forBody (stAt dProd.body 1)
theorem Ex1.brkTo {sc : Scope} {τ' : Loc} {pos : Pos} (h : subL τ' σ) : Ex1 G n sc σ (.Break pos) (.brk τ') := ⟨fun F A Z W s Q E hsc ho ok st k => Ex1.brk.run F A Z W s Q E hsc ho ok st fun fl s' Z' W' g o => k fl s' Z' W' g ⟨o.1, o.2.weak h.out⟩⟩
theorem prod_inner (D : Defs G) (hn : n ≤ 800) (text : Tx) (hl : text.length ≤ 800) (b : Nat) : ∀ (es : List Nat) (p : Nat), (∀ e ∈ es, e < text.length) → b ≤ text.length →
    ExF G (n + 42) dProd.scope [("begin", .val (.int b)), ("product", .val (.int p)), ("text", .val (.str text))] (forTgt (stAt pInner 0)) (nats es) true (forBody (stAt pInner 0)) []
      (.next [("product", .val (.int (prodEnd text b es p))), ("text", .val (.str text))]) := by
  intro es
  induction es with
  | nil => intro p he hb; exact ExF.nil (Ex.fin ⟨rfl, rfl, trivial⟩)
  | cons e es ih =>
    intro p he hb
    have hel := he e (.head _)
    have s1 := slc_nat text b (e + 1) hb (by omega)
    have s2 := slc_nat text b e hb (by omega)
    have hlen : (slcN text b (e + 1)).length ≤ 800 := by unfold slcN; rw [List.length_take, List.length_drop]; omega
    have hlen2 : (slcN text b e).length ≤ 800 := by unfold slcN; rw [List.length_take, List.length_drop]; omega
    have hfl := List.length_filter_le notPar (slcN text b e)
    have test : EvT G (n + 42) dProd.scope [("end", .val (.int e)), ("begin", .val (.int b)), ("product", .val (.int p)), ("text", .val (.str text))] (match stAt (forBody (stAt pInner 0)) 0 with | .If t _ _ _ => t | _ => default) (checkP (slcN text b (e + 1))) := by
      refine EvT.to (EvT.cmp (a := .bool (checkP (slcN text b (e + 1)))) (b := .bool true) (Ev.callF (by decide) rfl (EvL.cons (Ev.to (Ev.slcS (Ev.nm rfl) (EvP.at (Ev.nm rfl)) (EvP.at (Ev.bin (Ev.nm rfl) Ev.cInt BinV.addI)) (by omega)) (congrArg PV.str s1)) EvL.nil (fun _ => rfl)) D.check (by rfl)
        (fn_check (n := n + 40) D.T (by omega) (by omega) D.check D.strip D.iter _ (by omega)) (fun _ _ => rfl)) Ev.cBool (CmpV.is rfl) rfl) ?_
      cases checkP (slcN text b (e + 1)) <;> rfl
    cases hc : checkP (slcN text b (e + 1)) with
    | false =>
      rw [hc] at test
      have e1 : prodEnd text b (e :: es) p = prodEnd text b es p := by simp only [prodEnd, hc]; rfl
      rw [e1]
      exact ExF.next (τ' := [("begin", .val (.int b)), ("product", .val (.int p)), ("text", .val (.str text))]) (AsV.name (.inl rfl)) (Ex.cons (Ex1.if_ (c := false) test Ex.nil) (Ex.fin ⟨rfl, rfl, rfl, trivial⟩)) (ih p (fun x hx => he x (.tail _ hx)) hb)
    | true =>
      rw [hc] at test
      have e1 : prodEnd text b (e :: es) p = p * ((slcN text b e).filter notPar).length := by simp only [prodEnd, hc, if_true]
      rw [e1]
      have body : Ev G (n + 42) dProd.scope [("end", .val (.int e)), ("begin", .val (.int b)), ("product", .val (.int p)), ("text", .val (.str text))] (match stAt (forBody (stAt (forBody (stAt pInner 0)) 0)) 0 with | .AugAssign _ _ e _ => e | _ => default) (.int ((slcN text b e).filter notPar).length) := by
        refine Ev.to (Ev.callB D.T.nb (by decide +kernel) (by decide) (by decide) (by decide) rfl (EvL.cons (Ev.compr [] (EvI.str (Ev.to (Ev.slcS (Ev.nm rfl) (EvP.at (Ev.nm rfl)) (EvP.at (Ev.nm rfl)) (by omega)) (congrArg PV.str s2))) (by simp [signs]; omega) rfl trivial rfl (fun _ _ => rfl)
          (CompOk.map (fun a => .str [a]) notPar (fun a => .str [a]) (slcN text b e) fun a ha => ⟨_, AsV.name (.inl rfl), Tests.cond (EvT.cmp (Ev.nm rfl) (Ev.cStr (c := [40, 41]) rfl) CmpV.notInS rfl) rfl, fun _ => Ev.nm rfl, trivial⟩)) EvL.nil (fun _ => rfl)) (CallV.lenL (by rw [List.length_map]; omega)) (fun _ _ => rfl) (fun _ _ => rfl)) ?_
        rw [List.length_map]
      refine ExF.brk (AsV.name (.inl rfl)) (Ex.stop (Ex1.if_ (c := true) test (Ex.cons (Ex1.aug rfl body (InV.mulI (IntMulOk.of_right (intBits_le_64 (by omega) (by omega)))) (.inl rfl)) (Ex.stop (Ex1.brkTo ?_) rfl))) rfl)
      exact ⟨by rw [Int.natCast_mul]; rfl, rfl, trivial⟩

theorem prod_outer (D : Defs G) (hn : n ≤ 800) (text : Tx) (hl : text.length ≤ 800) : ∀ (bs : List Nat) (p : Nat), (∀ b ∈ bs, b < text.length) →
    ExF G (n + 42) dProd.scope [("product", .val (.int p)), ("text", .val (.str text))] (forTgt (stAt dProd.body 1)) (nats bs) true (forBody (stAt dProd.body 1)) [] (.next [("product", .val (.int (prodGo text bs p)))]) := by
  intro bs
  induction bs with
  | nil => intro p hb; exact ExF.nil (Ex.fin ⟨rfl, trivial⟩)
  | cons b bs ih =>
    intro p hb
    have hbl := hb b (.head _)
    have es : ∀ k ∈ placesOf text 41 b, k < text.length := fun k hk => by
      have := mem_upto (List.mem_filter.mp hk).1
      omega
    refine ExF.next (τ' := [("product", .val (.int (prodEnd text b (placesOf text 41 b) p))), ("text", .val (.str text))]) (AsV.name (.inl rfl)) ?_ (ih _ fun x hx => hb x (.tail _ hx))
    have eto : ((text.length : Int) - (b : Int)).toNat = text.length - b := by omega
    refine Ex.cons (Ex1.for_ (EvI.list (Ev.compr [("text", .val (.str text))] (EvI.upto (lo := b) (Ev.callT D.T.nb (by decide +kernel) (by decide) (by decide) (by decide) rfl (EvL.cons (Ev.nm rfl) (EvL.cons (Ev.callB D.T.nb (by decide +kernel) (by decide) (by decide) (by decide) rfl (EvL.cons (Ev.nm rfl) EvL.nil (fun _ => rfl)) (CallV.lenS (by omega)) (fun _ _ => rfl) (fun _ _ => rfl)) EvL.nil (fun _ => rfl)) (fun _ => rfl)) CallV.range2 (fun _ _ => rfl) (fun _ _ => rfl)) (by omega) (by omega) (by omega))
        (by simp [nats]; omega) rfl ⟨rfl, trivial⟩ rfl (fun _ _ => rfl)
        (CompOk.map (fun (k : Nat) => .int k) (fun k => text[k]? == some 41) (fun (k : Nat) => .int k) (List.range' b ((text.length : Int) - (b : Int)).toNat) fun k hk => by
          have hk' := mem_upto hk
          have hkl : k < text.length := by omega
          exact ⟨_, AsV.name (.inl rfl), Tests.cond (EvT.cmp (Ev.idxS (x := text[k]) (Ev.nm rfl) (Ev.nm rfl) (by rw [getI_nat]; exact List.getElem?_eq_getElem hkl) (by omega) (fun _ _ => rfl)) (Ev.cStr (c := [41]) rfl) CmpV.eqS rfl) (get_dec hkl), fun _ => Ev.nm rfl, ⟨rfl, trivial⟩⟩)))
      (by rw [eto]; exact ExF.weak (prod_inner D hn text hl b (placesOf text 41 b) p es (by omega)) (subL.out ⟨rfl, rfl, rfl, trivial⟩)) (fun _ _ => rfl)) (Ex.fin ⟨rfl, rfl, trivial⟩)
theorem fn_prod (D : Defs G) (hn : n ≤ 800) (hm : dProd ∈ recsOf G.p) (text : Tx) (hl : text.length ≤ 800) : Fn G (n + 43) "_law_product" [.str text] (.int (prodF text)) := by
  refine Fn.intro (d := dProd) (ns := ["text"]) hm (by rfl) ?_ (by decide) (by decide +kernel) (by decide +kernel) rfl rfl rfl ?_
  · intro pm code doc vs hv
    (apply len1 hv; exact fun _ => rfl)
  · have es : ∀ k ∈ placesOf text 40 0, k < text.length := fun k hk => by
      have := mem_upto (List.mem_filter.mp hk).1
      omega
    have eto : ((text.length : Int) - ((0 : Nat) : Int)).toNat = text.length - 0 := by omega
    refine Ex.cons (Ex1.assign Ev.cInt (.inl rfl) (fun _ => rfl)) ?_
    refine Ex.cons (Ex1.for_ (EvI.list (Ev.compr [("text", .val (.str text))] (EvI.upto (lo := 0) (Ev.callT D.T.nb (by decide +kernel) (by decide) (by decide) (by decide) rfl (EvL.cons (Ev.callB D.T.nb (by decide +kernel) (by decide) (by decide) (by decide) rfl (EvL.cons (Ev.nm rfl) EvL.nil (fun _ => rfl)) (CallV.lenS (by omega)) (fun _ _ => rfl) (fun _ _ => rfl)) EvL.nil (fun _ => rfl)) CallV.range1 (fun _ _ => rfl) (fun _ _ => rfl)) (by omega) (by omega) (by omega))
        (by simp [nats]; omega) rfl ⟨rfl, trivial⟩ rfl (fun _ _ => rfl)
        (CompOk.map (fun (k : Nat) => .int k) (fun k => text[k]? == some 40) (fun (k : Nat) => .int k) (List.range' 0 ((text.length : Int) - ((0 : Nat) : Int)).toNat) fun k hk => by
          have hk' := mem_upto hk
          have hkl : k < text.length := by omega
          exact ⟨_, AsV.name (.inl rfl), Tests.cond (EvT.cmp (Ev.idxS (x := text[k]) (Ev.nm rfl) (Ev.nm rfl) (by rw [getI_nat]; exact List.getElem?_eq_getElem hkl) (by omega) (fun _ _ => rfl)) (Ev.cStr (c := [40]) rfl) CmpV.eqS rfl) (get_dec hkl), fun _ => Ev.nm rfl, ⟨rfl, trivial⟩⟩)))
      (by rw [eto]; exact ExF.weak (prod_outer D hn text hl (placesOf text 40 0) 1 es) (subL.out ⟨rfl, rfl, trivial⟩)) (fun _ _ => rfl)) ?_
    exact Ex.stop (Ex1.ret (Ev.nm rfl)) rfl
end
end Mine
namespace Mine

def flipP (x : Nat) : Nat := if x == 40 then 41 else 40
def letPl (text : Tx) : List Nat := (List.range' 0 text.length).filter fun k => (match text[k]? with | some x => notPar x | none => false)
def gapOf (text : Tx) (pl : List Nat) (k : Nat) : Tx := match pl[pl.length - k - 1]?, pl[pl.length - k]? with
  | some a, some b => slcN text (a + 1) b
  | _, _ => []
def sizesGo (text : Tx) (pl : List Nat) : List Nat → List Int → Int → List Int
  | [], pre, last => pre ++ [last]
  | k :: r, pre, last => if checkP (gapOf text pl k ++ [92, 41] ++ (gapOf text pl k).map flipP) then sizesGo text pl r (pre ++ [last]) 1 else sizesGo text pl r pre (last + 1)
def sizesF (text : Tx) : List Int := sizesGo text (letPl text) (List.range' 1 ((letPl text).length - 1)) [] 1

theorem getI_neg {α : Type} {l : List α} {k : Nat} (h1 : 1 ≤ k) (h2 : k ≤ l.length) : getI l (-(k : Int)) = l[l.length - k]? := by
  unfold getI seqIndex?
  have h0 : (-(k : Int)) < 0 := by omega
  have e : (-(k : Int)) + (l.length : Int) = ((l.length - k : Nat) : Int) := by omega
  simp only [h0, if_true, e]
  have : (decide (0 ≤ ((l.length - k : Nat) : Int)) && decide (((l.length - k : Nat) : Int) < (l.length : Int))) = true := by
    simp; omega
  rw [if_pos this]
  simp

section
variable {G : Gc} {n : Nat} {σ : Loc}
set_option maxHeartbeats 1000000

theorem EvI.uptoN {sc : Scope} {e : Expr} {lo m : Nat} {hi : Int} (h1 : Ev G n sc σ e (.rng (lo : Int) hi 1)) (hm : (hi - lo).toNat = m) (hl : lo ≤ 1000000) (hh : hi ≤ 1000000) (hh' : -1000000 ≤ hi) : EvI G n sc σ e (nats (List.range' lo m)) true := by
  have := EvI.upto h1 hl hh hh'
  rw [hm] at this; exact this
theorem nats_len (l : List Nat) : (nats l).length = l.length := by simp [nats]
theorem its_snoc (l : List Int) (a : Int) : its (l ++ [a]) = its l ++ [.int a] := by simp [its]
theorem sizes_for (D : Defs G) (hn : n ≤ 800) (text : Tx) (hl : text.length ≤ 300) (pl : List Nat) (hpl : ∀ k ∈ pl, k < text.length) (hpn : pl.length ≤ 300) : ∀ (ks : List Nat) (pre : List Int) (last : Int), (∀ k ∈ ks, 1 ≤ k ∧ k < pl.length) → pre.length + ks.length ≤ 1000 →
    ExF G (n + 42) dSizes.scope [("places", .val (.list (nats pl))), ("text", .val (.str text)), ("sizes", .own (its pre ++ [.int last]))] (forTgt (stAt dSizes.body 2)) (nats ks) true (forBody (stAt dSizes.body 2)) []
      (.next [("sizes", .own (its (sizesGo text pl ks pre last)))]) := by
  intro ks
  induction ks with
  | nil =>
    intro pre last hk hlen
    refine ExF.nil (Ex.fin ?_)
    rw [show sizesGo text pl [] pre last = pre ++ [last] from rfl, its_snoc]
    exact ⟨rfl, trivial⟩
  | cons k ks ih =>
    intro pre last hk hlen
    obtain ⟨k1, k2⟩ := hk k (.head _)
    simp only [List.length_cons] at hlen
    have ha : pl[pl.length - k - 1]? = some pl[pl.length - k - 1] := List.getElem?_eq_getElem (by omega)
    have hb : pl[pl.length - k]? = some pl[pl.length - k] := List.getElem?_eq_getElem (by omega)
    have hal := hpl _ (List.mem_of_getElem? ha)
    have hbl := hpl _ (List.mem_of_getElem? hb)
    have eg : gapOf text pl k = slcN text (pl[pl.length - k - 1] + 1) pl[pl.length - k] := by unfold gapOf; rw [ha, hb]
    have ga : getI (nats pl) (-(k : Int) - 1) = some (.int (pl[pl.length - k - 1] : Nat)) := by
      have : (-(k : Int) - 1) = -((k + 1 : Nat) : Int) := by omega
      rw [this, getI_neg (by omega) (by rw [nats_len]; omega), nats_len, nats, List.getElem?_map, show pl.length - (k + 1) = pl.length - k - 1 by omega, ha]; rfl
    have gb : getI (nats pl) (-(k : Int)) = some (.int (pl[pl.length - k] : Nat)) := by
      rw [getI_neg k1 (by rw [nats_len]; omega), nats_len, nats, List.getElem?_map, hb]; rfl
    generalize pl[pl.length - k - 1] = a at *
    generalize pl[pl.length - k] = b at *
    have hs := slc_nat text (a + 1) b (by omega) (by omega)
    have hgl : (slcN text (a + 1) b).length ≤ 300 := by unfold slcN; rw [List.length_take, List.length_drop]; omega
    have s0 : Ex1 G (n + 42) dSizes.scope [("k", .val (.int k)), ("places", .val (.list (nats pl))), ("text", .val (.str text)), ("sizes", .own (its pre ++ [.int last]))] (stAt (forBody (stAt dSizes.body 2)) 0)
        (.next [("gap", .val (.str (gapOf text pl k))), ("k", .val (.int k)), ("places", .val (.list (nats pl))), ("text", .val (.str text)), ("sizes", .own (its pre ++ [.int last]))]) := by
      rw [eg]
      exact Ex1.assign (Ev.to (Ev.slcS (Ev.nm rfl) (EvP.at (Ev.bin (Ev.idxL (Ev.nm rfl) (Ev.bin (Ev.neg (Ev.nm rfl)) Ev.cInt BinV.subI) ga (by rw [nats_len]; omega) (fun _ _ => rfl)) Ev.cInt BinV.addI)) (EvP.at (Ev.idxL (Ev.nm rfl) (Ev.neg (Ev.nm rfl)) gb (by rw [nats_len]; omega) (fun _ _ => rfl))) (by omega)) (congrArg PV.str hs)) (.inl rfl) (fun _ => rfl)
    rw [← eg] at hgl
    have eg' : sizesGo text pl (k :: ks) pre last = if checkP (gapOf text pl k ++ [92, 41] ++ (gapOf text pl k).map flipP) then sizesGo text pl ks (pre ++ [last]) 1 else sizesGo text pl ks pre (last + 1) := rfl
    rw [eg']
    have nxt1 := ih (pre ++ [last]) 1 (fun x hx => hk x (.tail _ hx)) (by simp; omega)
    have nxt2 := ih pre (last + 1) (fun x hx => hk x (.tail _ hx)) (by omega)
    generalize gapOf text pl k = gap at *
    have s1 : Ex1 G (n + 42) dSizes.scope [("gap", .val (.str gap)), ("k", .val (.int k)), ("places", .val (.list (nats pl))), ("text", .val (.str text)), ("sizes", .own (its pre ++ [.int last]))] (stAt (forBody (stAt dSizes.body 2)) 1)
        (.next [("others", .val (.str (gap.map flipP))), ("gap", .val (.str gap)), ("k", .val (.int k)), ("places", .val (.list (nats pl))), ("text", .val (.str text)), ("sizes", .own (its pre ++ [.int last]))]) := by
      refine Ex1.assign (join_signs (l := gap.map flipP) (Ev.cStr (c := []) rfl) (Ev.to (Ev.compr [] (EvI.str (Ev.nm rfl)) (by simp [signs]; omega) rfl trivial rfl (fun _ _ => rfl)
        (CompOk.map (fun a => .str [a]) (fun _ => true) (fun a => .str [flipP a]) gap fun a ha => ⟨_, AsV.name (.inl rfl), .nil, fun _ => Ev.ite (c := a == 40) (EvT.to (EvT.cmp (Ev.nm rfl) (Ev.cStr (c := [40]) rfl) CmpV.eqS rfl) (by rw [Bool.eq_iff_iff]; simp)) (fun h => Ev.to (Ev.cStr (c := [41]) rfl) (by unfold flipP; rw [h]; rfl)) (fun h => Ev.to (Ev.cStr (c := [40]) rfl) (by unfold flipP; rw [h]; rfl)), trivial⟩)) (by rw [List.filter_eq_self.mpr (fun _ _ => rfl), List.map_map]; rfl))
        (by simp; omega) (fun _ => rfl) (fun _ => rfl) rfl (fun _ => rfl) (fun _ _ => rfl) (fun _ _ => rfl)) (.inl rfl) (fun _ => rfl)
    have test : EvT G (n + 42) dSizes.scope [("others", .val (.str (gap.map flipP))), ("gap", .val (.str gap)), ("k", .val (.int k)), ("places", .val (.list (nats pl))), ("text", .val (.str text)), ("sizes", .own (its pre ++ [.int last]))]
        (match stAt (forBody (stAt dSizes.body 2)) 2 with | .If t _ _ _ => t | _ => default) (checkP (gap ++ [92, 41] ++ gap.map flipP)) := by
      refine EvT.to (EvT.cmp (a := .bool (checkP (gap ++ [92, 41] ++ gap.map flipP))) (b := .bool true) (Ev.callF (by decide) rfl (EvL.cons (Ev.bin (Ev.bin (Ev.nm rfl) (Ev.cStr (c := [92, 41]) rfl) (BinV.addS (by simp; omega))) (Ev.nm rfl) (BinV.addS (by simp; omega))) EvL.nil (fun _ => rfl)) D.check (by rfl)
        (fn_check (n := n + 40) D.T (by omega) (by omega) D.check D.strip D.iter _ (by simp; omega)) (fun _ _ => rfl)) Ev.cBool (CmpV.is rfl) rfl) ?_
      cases checkP (gap ++ [92, 41] ++ gap.map flipP) <;> rfl
    cases hc : checkP (gap ++ [92, 41] ++ gap.map flipP) with
    | true =>
      rw [hc] at test
      rw [if_pos rfl]
      refine ExF.next (τ' := [("places", .val (.list (nats pl))), ("text", .val (.str text)), ("sizes", .own (its (pre ++ [last]) ++ [.int 1]))]) (AsV.name (.inl rfl)) (Ex.cons s0 (Ex.cons s1 (Ex.cons (Ex1.if_ (c := true) test
        (Ex.cons (Ex1.append (xs := its pre ++ [.int last]) rfl Ev.cInt (by decide) (by simp [its]; omega) (fun _ => rfl) (fun _ _ => rfl) (fun _ => rfl) rfl (fun _ => rfl)) Ex.nil)) (Ex.fin ?_)))) nxt1
      rw [its_snoc]
      exact ⟨rfl, rfl, rfl, trivial⟩
    | false =>
      rw [hc] at test
      rw [if_neg Bool.false_ne_true]
      refine ExF.next (τ' := [("places", .val (.list (nats pl))), ("text", .val (.str text)), ("sizes", .own (its pre ++ [.int (last + 1)]))]) (AsV.name (.inl rfl)) (Ex.cons s0 (Ex.cons s1 (Ex.cons (Ex1.if_ (c := false) test
        (Ex.cons (Ex1.augLast (pre := its pre) rfl (Ev.neg Ev.cInt) Ev.cInt InV.addI rfl (by decide) (by simp [its]; omega) (fun _ _ _ => rfl)) Ex.nil)) (Ex.fin ?_)))) nxt2
      exact ⟨rfl, rfl, rfl, trivial⟩
theorem fn_sizes (D : Defs G) (hn : n ≤ 800) (hm : dSizes ∈ recsOf G.p) (text : Tx) (hl : text.length ≤ 300) : Fn G (n + 43) "_law_sizes" [.str text] (.list (its (sizesF text))) := by
  refine Fn.intro (d := dSizes) (ns := ["text"]) hm (by rfl) ?_ (by decide) (by decide +kernel) (by decide +kernel) rfl rfl rfl ?_
  · intro pm code doc vs hv
    (apply len1 hv; exact fun _ => rfl)
  · have hpl : ∀ k ∈ letPl text, k < text.length := fun k hk => by
      have := mem_upto (List.mem_filter.mp hk).1
      omega
    have hpn : (letPl text).length ≤ text.length := by
      have := List.length_filter_le (fun k => (match text[k]? with | some x => notPar x | none => false)) (List.range' 0 text.length)
      rw [List.length_range'] at this
      exact this
    have eto : ((text.length : Int) - ((0 : Nat) : Int)).toNat = text.length := by omega
    have eto2 : (((nats (letPl text)).length : Int) - ((1 : Nat) : Int)).toNat = (letPl text).length - 1 := by rw [nats_len]; omega
    refine Ex.cons (Ex1.assignOwn (EvN.disp (xs := its [] ++ [.int 1]) (EvL.cons Ev.cInt EvL.nil (fun _ => rfl)) (by simp [its])) rfl (fun _ => rfl)) ?_
    refine Ex.cons (Ex1.assignCompr (ys := nats (letPl text)) [("text", .val (.str text))] (EvI.uptoN (lo := 0) (m := text.length) (Ev.callT D.T.nb (by decide +kernel) (by decide) (by decide) (by decide) rfl (EvL.cons (Ev.callB D.T.nb (by decide +kernel) (by decide) (by decide) (by decide) rfl (EvL.cons (Ev.nm rfl) EvL.nil (fun _ => rfl)) (CallV.lenS (by omega)) (fun _ _ => rfl) (fun _ _ => rfl)) EvL.nil (fun _ => rfl)) CallV.range1 (fun _ _ => rfl) (fun _ _ => rfl)) (by omega) (by omega) (by omega) (by omega))
        (by simp [nats]; omega) rfl ⟨rfl, trivial⟩ rfl (fun _ _ => rfl) (.inl rfl)
        (CompOk.map (fun (k : Nat) => .int k) (fun k => (match text[k]? with | some x => notPar x | none => false)) (fun (k : Nat) => .int k) (List.range' 0 text.length) fun k hk => by
          have hk' := mem_upto hk
          have hkl : k < text.length := by omega
          exact ⟨_, AsV.name (.inl rfl), Tests.cond (EvT.cmp (Ev.idxS (x := text[k]) (Ev.nm rfl) (Ev.nm rfl) (by rw [getI_nat]; exact List.getElem?_eq_getElem hkl) (by omega) (fun _ _ => rfl)) (Ev.cStr (c := [40, 41]) rfl) CmpV.notInS rfl) (by rw [List.getElem?_eq_getElem hkl]; rfl), fun _ => Ev.nm rfl, ⟨rfl, trivial⟩⟩)) ?_
    refine Ex.cons (Ex1.for_ (EvI.uptoN (lo := 1) (m := (letPl text).length - 1) (Ev.callT D.T.nb (by decide +kernel) (by decide) (by decide) (by decide) rfl (EvL.cons Ev.cInt (EvL.cons (Ev.callB D.T.nb (by decide +kernel) (by decide) (by decide) (by decide) rfl (EvL.cons (Ev.nm rfl) EvL.nil (fun _ => rfl)) (CallV.lenL (by rw [nats_len]; omega)) (fun _ _ => rfl) (fun _ _ => rfl)) EvL.nil (fun _ => rfl)) (fun _ => rfl)) CallV.range2 (fun _ _ => rfl) (fun _ _ => rfl)) (by rw [nats_len]; omega) (by omega) (by rw [nats_len]; omega) (by omega))
        (ExF.weak (sizes_for D hn text hl (letPl text) hpl (by omega) (List.range' 1 ((letPl text).length - 1)) [] 1 (fun k hk => by have := mem_upto hk; omega) (by simp; omega)) (subL.out ⟨rfl, rfl, rfl, trivial⟩)) (fun _ _ => rfl)) ?_
    exact Ex.freeze (x := "sizes") (xs := its (sizesF text)) rfl (Ex.stop (Ex1.ret (Ev.nm rfl)) rfl)
end
end Mine
namespace Mine

theorem slcG_init {α : Type} (c : List α) : slc c none (some (-1)) = c.dropLast := by
  unfold slc clip
  simp only [show (-1 : Int) < 0 from by decide, if_true]
  rw [List.drop_zero, List.dropLast_eq_take]
  congr 1
  omega
theorem slcG_to {α : Type} (l : List α) (hi : Nat) : slc l none (some (hi : Int)) = l.take hi := by
  unfold slc clip
  have e1 : (if (hi : Int) < 0 then (hi : Int) + (l.length : Int) else hi) = hi := if_neg (by omega)
  simp only [e1, Int.toNat_natCast]
  rw [List.drop_zero, Nat.sub_zero]
  rcases Nat.le_total hi l.length with h | h
  · rw [Nat.min_eq_left h]
  · rw [Nat.min_eq_right h, List.take_of_length_le (Nat.le_refl _), List.take_of_length_le h]
def rulK (sizes : List Int) : Nat → Nat
  | 0 => 0
  | k + 1 => if decide (1 < k + 1) && (sizes[k - 1]? == sizes[k]?) then rulK sizes k else k + 1
def rulF (sizes : List Int) (form : Nat) : List Int × List Int := match form with
  | 0 => (sizes ++ [127, 4], sizes)
  | 1 => (sizes.dropLast ++ [127, 4], sizes.dropLast)
  | 2 => (sizes.dropLast, sizes.dropLast)
  | _ => (sizes.take (rulK sizes sizes.length) ++ [0, 4], (sizes ++ List.replicate 7 (sizes.getLastD 0)).take 7)

section
variable {G : Gc} {n : Nat} {σ : Loc}
set_option maxHeartbeats 1000000

theorem its_len (l : List Int) : (its l).length = l.length := by simp [its]
theorem its_app (a b : List Int) : its (a ++ b) = its a ++ its b := by simp [its]
theorem its_drop (l : List Int) : (its l).dropLast = its l.dropLast := by rw [its, its, List.map_dropLast]
theorem its_take (l : List Int) (k : Nat) : (its l).take k = its (l.take k) := by rw [its, its, List.map_take]
theorem its_get (l : List Int) (k : Nat) : (its l)[k]? = (l[k]?).map .int := by rw [its, List.getElem?_map]
theorem rulK_le (sizes : List Int) : ∀ k, rulK sizes k ≤ k
  | 0 => Nat.le_refl _
  | k + 1 => by
    unfold rulK
    split
    · exact Nat.le_succ_of_le (rulK_le sizes k)
    · exact Nat.le_refl _

theorem ruler_while (sizes : List Int) (form : Nat) (hl : sizes.length ≤ 1000) : ∀ k, k ≤ sizes.length → ExW G n dRuler.scope [("k", .val (.int k)), ("sizes", .val (.list (its sizes))), ("form", .val (.int form))] (whTest (stAt dRuler.body 1)) (forBody (stAt dRuler.body 1)) []
      (.next [("k", .val (.int (rulK sizes k))), ("sizes", .val (.list (its sizes))), ("form", .val (.int form))]) := by
  intro k
  induction k with
  | zero =>
    intro hk
    refine ExW.stop ?_ (Ex.fin ⟨rfl, rfl, rfl, trivial⟩)
    exact EvT.to (EvT.bools (EvA.and (b := false) (EvT.cmp (Ev.nm rfl) Ev.cInt CmpV.gtI rfl) (fun h => by simp at h))) rfl
  | succ k ih =>
    intro hk
    have test : EvT G n dRuler.scope [("k", .val (.int ((k + 1 : Nat) : Int))), ("sizes", .val (.list (its sizes))), ("form", .val (.int form))] (whTest (stAt dRuler.body 1)) (decide (1 < k + 1) && (sizes[k - 1]? == sizes[k]?)) := by
      refine EvT.to (EvT.bools (EvA.and (a := decide (1 < k + 1)) (b := sizes[k - 1]? == sizes[k]?) (EvT.to (EvT.cmp (Ev.nm rfl) Ev.cInt CmpV.gtI rfl) (by rw [Bool.eq_iff_iff]; simp; omega)) (fun h => ?_))) rfl
      have h := of_decide_eq_true h
      have ha : sizes[k - 1]? = some sizes[k - 1] := List.getElem?_eq_getElem (by omega)
      have hb : sizes[k]? = some sizes[k] := List.getElem?_eq_getElem (by omega)
      have ga : getI (its sizes) (((k + 1 : Nat) : Int) - 2) = some (.int sizes[k - 1]) := by
        rw [show (((k + 1 : Nat) : Int) - 2) = ((k - 1 : Nat) : Int) by omega, getI_nat, its_get, ha]; rfl
      have gb : getI (its sizes) (((k + 1 : Nat) : Int) - 1) = some (.int sizes[k]) := by
        rw [show (((k + 1 : Nat) : Int) - 1) = ((k : Nat) : Int) by omega, getI_nat, its_get, hb]; rfl
      rw [ha, hb]
      have e : ((some sizes[k - 1] == some sizes[k]) : Bool) = ((sizes[k - 1] == sizes[k]) && true) := by rw [Bool.eq_iff_iff]; simp
      rw [e]
      exact EvA.and (EvT.cmp (Ev.idxL (Ev.nm rfl) (Ev.bin (Ev.nm rfl) Ev.cInt BinV.subI) ga (by rw [its_len]; omega) (fun _ _ => rfl)) (Ev.idxL (Ev.nm rfl) (Ev.bin (Ev.nm rfl) Ev.cInt BinV.subI) gb (by rw [its_len]; omega) (fun _ _ => rfl)) CmpV.eqI rfl) (fun _ => EvA.and0)
    cases hc : (decide (1 < k + 1) && (sizes[k - 1]? == sizes[k]?)) with
    | true =>
      rw [hc] at test
      have e : rulK sizes (k + 1) = rulK sizes k := by rw [rulK, hc, if_pos rfl]
      rw [e]
      refine ExW.next (τ := [("k", .val (.int k)), ("sizes", .val (.list (its sizes))), ("form", .val (.int form))]) test (Ex.cons (Ex1.aug rfl Ev.cInt InV.subI (.inl rfl)) (Ex.fin ?_)) (ih (by omega))
      rw [show (((k + 1 : Nat) : Int) - 1) = ((k : Nat) : Int) by omega]
      exact ⟨rfl, rfl, rfl, trivial⟩
    | false =>
      rw [hc] at test
      have e : rulK sizes (k + 1) = k + 1 := by rw [rulK, hc, if_neg Bool.false_ne_true]
      rw [e]
      exact ExW.stop test (Ex.fin ⟨rfl, rfl, rfl, trivial⟩)

theorem fn_ruler (nb : NoB G) (hm : dRuler ∈ recsOf G.p) (sizes : List Int) (form : Nat) (hne : sizes ≠ []) (hl : sizes.length ≤ 1000) (hf : form < 4) :
    Fn G (n + 1) "_law_ruler" [.list (its sizes), .int form] (.tup [.list (its (rulF sizes form).1), .list (its (rulF sizes form).2)]) := by
  refine Fn.intro (d := dRuler) (ns := ["sizes", "form"]) hm (by rfl) ?_ (by decide) (by decide +kernel) (by decide +kernel) rfl rfl rfl ?_
  · intro pm code doc vs hv
    (apply len2 hv; exact fun _ _ => rfl)
  · have hil := its_len sizes
    have hk := rulK_le sizes sizes.length
    refine Ex.cons (Ex1.assign (Ev.to (Ev.callB nb (by decide +kernel) (by decide) (by decide) (by decide) rfl (EvL.cons (Ev.nm rfl) EvL.nil (fun _ => rfl)) (CallV.lenL (by rw [hil]; omega)) (fun _ _ => rfl) (fun _ _ => rfl)) (congrArg (fun k : Nat => PV.int k) hil)) (.inl rfl) (fun _ => rfl)) ?_
    refine Ex.cons (Ex1.while_ (ExW.weak (ruler_while sizes form hl sizes.length (Nat.le_refl _)) ⟨rfl, rfl, rfl, trivial⟩)) ?_
    have hlast : getI (its sizes) (-1) = some (.int (sizes.getLastD 0)) := by
      rw [getI_last, its, List.getLast?_map]
      cases sizes with
      | nil => exact absurd rfl hne
      | cons a r => rfl
    have l0 : ∀ {σ : Loc}, σ.lookup ("sizes" : Str) = some (.val (.list (its sizes))) → Ev G n dRuler.scope σ (.Name "sizes" default) (.list (its sizes)) := fun h => Ev.nm h
    have hdl : (its sizes.dropLast).length ≤ 1000 := by rw [its_len, List.length_dropLast]; omega
    have htl : (its (sizes.take (rulK sizes sizes.length))).length ≤ 1000 := by rw [its_len, List.length_take]; omega
    refine Ex.cons (Ex1.assign (pv := .list [.list (its (rulF sizes 0).1), .list (its (rulF sizes 1).1), .list (its (rulF sizes 2).1), .list (its (rulF sizes 3).1)])
      (Ev.mkL (EvL.cons (Ev.to (Ev.bin (Ev.nm rfl) (Ev.mkL (xs := its [127, 4]) (EvL.cons Ev.cInt (EvL.cons Ev.cInt EvL.nil (fun _ => rfl)) (fun _ => rfl)) (by simp [its])) (BinV.addL (by rw [its_len, its_len]; simp; omega))) (by rw [← its_app]; rfl))
        (EvL.cons (Ev.to (Ev.bin (Ev.to (Ev.slcL (Ev.nm rfl) EvP.no (EvP.at (Ev.neg Ev.cInt)) (by rw [hil]; omega)) (congrArg PV.list ((slcG_init _).trans (its_drop _)))) (Ev.mkL (xs := its [127, 4]) (EvL.cons Ev.cInt (EvL.cons Ev.cInt EvL.nil (fun _ => rfl)) (fun _ => rfl)) (by simp [its])) (BinV.addL (by rw [its_len [127, 4]]; simp; omega))) (by rw [← its_app]; rfl))
        (EvL.cons (Ev.to (Ev.slcL (Ev.nm rfl) EvP.no (EvP.at (Ev.neg Ev.cInt)) (by rw [hil]; omega)) (congrArg PV.list ((slcG_init _).trans (its_drop _))))
        (EvL.cons (Ev.to (Ev.bin (Ev.to (Ev.slcL (Ev.nm rfl) EvP.no (EvP.at (Ev.nm rfl)) (by rw [hil]; omega)) (congrArg PV.list ((slcG_to _ _).trans (its_take _ _)))) (Ev.mkL (xs := its [0, 4]) (EvL.cons Ev.cInt (EvL.cons Ev.cInt EvL.nil (fun _ => rfl)) (fun _ => rfl)) (by simp [its])) (BinV.addL (by rw [its_len [0, 4]]; simp; omega))) (by rw [← its_app]; rfl))
        EvL.nil (fun _ => rfl)) (fun _ => rfl)) (fun _ => rfl)) (fun _ => rfl)) (by simp)) (.inl rfl) (fun _ => rfl)) ?_
    have hrep : its sizes ++ repL [PV.int (sizes.getLastD 0)] 7 = its (sizes ++ List.replicate 7 (sizes.getLastD 0)) := by rw [its_app]; rfl
    refine Ex.cons (Ex1.assign (pv := .list [.list (its (rulF sizes 0).2), .list (its (rulF sizes 1).2), .list (its (rulF sizes 2).2), .list (its (rulF sizes 3).2)])
      (Ev.mkL (EvL.cons (Ev.nm rfl)
        (EvL.cons (Ev.to (Ev.slcL (Ev.nm rfl) EvP.no (EvP.at (Ev.neg Ev.cInt)) (by rw [hil]; omega)) (congrArg PV.list ((slcG_init _).trans (its_drop _))))
        (EvL.cons (Ev.to (Ev.slcL (Ev.nm rfl) EvP.no (EvP.at (Ev.neg Ev.cInt)) (by rw [hil]; omega)) (congrArg PV.list ((slcG_init _).trans (its_drop _))))
        (EvL.cons (Ev.to (Ev.slcL (Ev.to (Ev.bin (Ev.nm rfl) (Ev.mulN (k := 7) (EvN.disp (xs := [PV.int (sizes.getLastD 0)]) (EvL.cons (Ev.idxL (Ev.nm rfl) (Ev.neg Ev.cInt) hlast (by rw [hil]; omega) (fun _ _ => rfl)) EvL.nil (fun _ => rfl)) (by simp)) Ev.cInt (by simp) (by simp) (by omega)) (BinV.addL (by rw [hil]; simp [repL]; omega))) (congrArg PV.list hrep)) EvP.no (EvP.at (i := ((7 : Nat) : Int)) Ev.cInt) (by rw [its_len]; simp; omega)) (congrArg PV.list ((slcG_to _ _).trans (its_take _ _))))
        EvL.nil (fun _ => rfl)) (fun _ => rfl)) (fun _ => rfl)) (fun _ => rfl)) (by simp)) (.inl rfl) (fun _ => rfl)) ?_
    refine Ex.stop (Ex1.ret (Ev.mkT (EvL.cons (Ev.idxL (Ev.nm rfl) (Ev.nm rfl) ?_ (by simp) (fun _ _ => rfl)) (EvL.cons (Ev.idxL (Ev.nm rfl) (Ev.nm rfl) ?_ (by simp) (fun _ _ => rfl)) EvL.nil (fun _ => rfl)) (fun _ => rfl)) (by simp))) rfl
    · rw [getI_nat]
      match form, hf with
      | 0, _ => rfl
      | 1, _ => rfl
      | 2, _ => rfl
      | 3, _ => rfl
    · rw [getI_nat]
      match form, hf with
      | 0, _ => rfl
      | 1, _ => rfl
      | 2, _ => rfl
      | 3, _ => rfl
end
end Mine
namespace Mine

def cutGo : List Int → Tx → List Int → List Tx → List Int × List Tx × Tx
  | [], row, told, pieces => (told, pieces, row)
  | x :: r, row, told, pieces =>
    if told.length == 6 then (told ++ [x], pieces ++ [slc row (some (-x)) none], slc row none (some (-x)))
    else cutGo r (slc row none (some (-x))) (told ++ [x]) (pieces ++ [slc row (some (-x)) none])
def cutF (row : Tx) (xs : List Int) : List Int × List Tx :=
  ((cutGo xs row [] []).1, ((cutGo xs row [] []).2.1 ++ [(cutGo xs row [] []).2.2]).filter fun p => !p.isEmpty)

section
variable {G : Gc} {n : Nat} {σ : Loc}
set_option maxHeartbeats 1000000

theorem slc_le (l : Tx) (a b : Option Int) : (slc l a b).length ≤ l.length := by
  unfold slc
  rw [List.length_take, List.length_drop]
  omega
theorem sts_snoc (l : List Tx) (a : Tx) : sts (l ++ [a]) = sts l ++ [.str a] := by simp [sts]
/-- the intervals, by the generator -/
theorem EvI.grp {sc : Scope} {e : Expr} {x : Str} {gs xs : List Int} {ends : Bool} {p pos : Pos} (T : Top1 G) (h40 : 40 ≤ n) (hn : n ≤ 999) (hm : dGrp ∈ recsOf G.p) (hx : x = ("_grouping_intervals" : Str)) (hl : gs.length ≤ 1000000) (hg : Grp none gs xs ends)
    (hk : sc.names.lookup x = some .globalImplicit) (h1 : Ev G n sc σ e (.list (its gs))) (he : ∀ env pos, backTo pos (starEach [e] env) = [(false, eval e env)]) (hse : ∀ env, starEach [e] env = (false, eval e env) :: starEach [] env) :
    EvI G n sc σ (.Call (.Name x p) [e] [] pos) (its xs) ends := by
  subst hx
  refine EvI.gen (d := dGrp) (ns := ["grouping"]) (k1 := 1) hn (by decide) hk (EvL.cons h1 EvL.nil hse) hm (by rfl) (fun env pos => (he env pos).trans rfl) ?_ (by decide) ?_ (by decide +kernel) rfl rfl rfl rfl (spec_grp h40 hn T.cm gs xs ends hl hg)
  · intro pm code doc vs hv
    (apply len1 hv; exact fun _ => rfl)
  · intro y hy
    rw [List.mem_singleton.mp hy]; rfl

theorem cut_for (nb : NoB G) (ends : Bool) : ∀ (xs : List Int) (row : Tx) (told : List Int) (pieces : List Tx), told.length < 7 → (ends = true ∨ 7 ≤ told.length + xs.length) → row.length ≤ 1000 → pieces.length ≤ 100 →
    pieces.length = told.length →
    ExF G n dCut.scope [("row", .val (.str row)), ("told", .own (its told)), ("pieces", .own (sts pieces))] (forTgt (stAt dCut.body 1)) (its xs) ends (forBody (stAt dCut.body 1)) []
      (.next [("row", .val (.str (cutGo xs row told pieces).2.2)), ("told", .own (its (cutGo xs row told pieces).1)), ("pieces", .own (sts (cutGo xs row told pieces).2.1))]) := by
  intro xs
  induction xs with
  | nil =>
    intro row told pieces ht he hr hp hpt
    have : ends = true := he.elim id fun h => by simp at h; omega
    subst this
    exact ExF.nil (Ex.fin ⟨rfl, rfl, rfl, trivial⟩)
  | cons x xs ih =>
    intro row told pieces ht he hr hp hpt
    have hl1 := slc_le row none (some (-x))
    have ap1 : Ex1 G n dCut.scope [("size", .val (.int x)), ("row", .val (.str row)), ("told", .own (its told)), ("pieces", .own (sts pieces))] (stAt (forBody (stAt dCut.body 1)) 0) (.next (("told", .own (its told ++ [.int x])) :: [("size", .val (.int x)), ("row", .val (.str row)), ("told", .own (its told)), ("pieces", .own (sts pieces))])) :=
      Ex1.append (xs := its told) rfl (Ev.nm rfl) (by decide) (by rw [its_len]; omega) (fun _ => rfl) (fun _ _ => rfl) (fun _ => rfl) rfl (fun _ => rfl)
    have ap2 : Ex1 G n dCut.scope (("told", .own (its told ++ [.int x])) :: [("size", .val (.int x)), ("row", .val (.str row)), ("told", .own (its told)), ("pieces", .own (sts pieces))]) (stAt (forBody (stAt dCut.body 1)) 1)
        (.next (("pieces", .own (sts pieces ++ [.str (slc row (some (-x)) none)])) :: ("told", .own (its told ++ [.int x])) :: [("size", .val (.int x)), ("row", .val (.str row)), ("told", .own (its told)), ("pieces", .own (sts pieces))])) :=
      Ex1.append (xs := sts pieces) rfl (Ev.slcS (Ev.nm rfl) (EvP.at (Ev.neg (Ev.nm rfl))) EvP.no (by omega)) (by decide) (by rw [sts_len]; omega) (fun _ => rfl) (fun _ _ => rfl) (fun _ => rfl) rfl (fun _ => rfl)
    rw [← its_snoc] at ap1 ap2
    rw [← sts_snoc] at ap2
    have test : ∀ {σ : Loc} {b : Bool}, σ.lookup ("told" : Str) = some (.own (its (told ++ [x]))) → (told.length == 6) = b → EvT G n dCut.scope σ (match stAt (forBody (stAt dCut.body 1)) 3 with | .If t _ _ _ => t | _ => default) b := fun {σ b} h hb =>
      EvT.borrow (x := "told") (xs := its (told ++ [x])) h (EvT.to (EvT.cmp (Ev.callB nb (by decide +kernel) (by decide) (by decide) (by decide) rfl (EvL.cons (Ev.nm rfl) EvL.nil (fun _ => rfl)) (CallV.lenL (by rw [its_len]; simp; omega)) (fun _ _ => rfl) (fun _ _ => rfl)) Ev.cInt CmpV.eqI rfl) (by rw [← hb, its_len, Bool.eq_iff_iff]; simp; omega))
    cases h6 : told.length == 6 with
    | true =>
      have e : cutGo (x :: xs) row told pieces = (told ++ [x], pieces ++ [slc row (some (-x)) none], slc row none (some (-x))) := by simp only [cutGo, h6, if_true]
      rw [e]
      exact ExF.brk (AsV.name (.inl rfl)) (Ex.cons ap1 (Ex.cons ap2 (Ex.cons (Ex1.assign (Ev.slcS (Ev.nm rfl) EvP.no (EvP.at (Ev.neg (Ev.nm rfl))) (by omega)) (.inl rfl) (fun _ => rfl))
        (Ex.stop (Ex1.if_ (c := true) (test rfl h6) (Ex.stop (Ex1.brkTo ⟨rfl, rfl, rfl, trivial⟩) rfl)) rfl))))
    | false =>
      have e : cutGo (x :: xs) row told pieces = cutGo xs (slc row none (some (-x))) (told ++ [x]) (pieces ++ [slc row (some (-x)) none]) := by simp only [cutGo, h6]; rfl
      rw [e]
      have hne : told.length ≠ 6 := by simpa using h6
      refine ExF.next (τ' := [("row", .val (.str (slc row none (some (-x))))), ("told", .own (its (told ++ [x]))), ("pieces", .own (sts (pieces ++ [slc row (some (-x)) none])))]) (AsV.name (.inl rfl))
        (Ex.cons ap1 (Ex.cons ap2 (Ex.cons (Ex1.assign (Ev.slcS (Ev.nm rfl) EvP.no (EvP.at (Ev.neg (Ev.nm rfl))) (by omega)) (.inl rfl) (fun _ => rfl)) (Ex.cons (Ex1.if_ (c := false) (test rfl h6) Ex.nil) (Ex.fin ⟨rfl, rfl, rfl, trivial⟩)))))
        (ih _ _ _ (by simp; omega) (he.imp id fun h => by simp at h ⊢; omega) (by omega) (by simp; omega) (by simp; omega))
theorem cutGo_len : ∀ (xs : List Int) (row : Tx) (told : List Int) (pieces : List Tx), row.length ≤ 1000 → (∀ p ∈ pieces, p.length ≤ 1000) → told.length < 7 → pieces.length = told.length → (∀ p ∈ (cutGo xs row told pieces).2.1, p.length ≤ 1000) ∧ (cutGo xs row told pieces).2.2.length ≤ 1000 ∧ (cutGo xs row told pieces).2.1.length ≤ 7
  | [], row, told, pieces, h1, h2, h3, h4 => ⟨h2, h1, by show pieces.length ≤ 7; omega⟩
  | x :: xs, row, told, pieces, h1, h2, h3, h4 => by
    have hl1 := slc_le row none (some (-x))
    have hl2 := slc_le row (some (-x)) none
    have hp : ∀ p ∈ pieces ++ [slc row (some (-x)) none], p.length ≤ 1000 := fun p hp => by
      rcases List.mem_append.mp hp with hp | hp
      · exact h2 p hp
      · rw [List.mem_singleton.mp hp]; omega
    cases h6 : told.length == 6 with
    | true =>
      have e : cutGo (x :: xs) row told pieces = (told ++ [x], pieces ++ [slc row (some (-x)) none], slc row none (some (-x))) := by simp only [cutGo, h6, if_true]
      rw [e]
      exact ⟨hp, by show (slc row none (some (-x))).length ≤ 1000; omega, by show (pieces ++ [slc row (some (-x)) none]).length ≤ 7; simp; omega⟩
    | false =>
      have e : cutGo (x :: xs) row told pieces = cutGo xs (slc row none (some (-x))) (told ++ [x]) (pieces ++ [slc row (some (-x)) none]) := by simp only [cutGo, h6]; rfl
      rw [e]
      have hne : told.length ≠ 6 := by simpa using h6
      exact cutGo_len xs _ _ _ (by omega) hp (by simp; omega) (by simp; omega)
theorem fn_cut (D : Defs G) (hn : n ≤ 800) (hm : dCut ∈ recsOf G.p) (row : Tx) (gs xs : List Int) (ends : Bool) (hl : row.length ≤ 1000) (hgl : gs.length ≤ 1000) (hg : Grp none gs xs ends) (he : ends = true ∨ 7 ≤ xs.length) :
    Fn G (n + 41) "_law_cut" [.str row, .list (its gs)] (.tup [.list (its (cutF row xs).1), .list (sts (cutF row xs).2)]) := by
  refine Fn.intro (d := dCut) (ns := ["row", "ruler"]) hm (by rfl) ?_ (by decide) (by decide +kernel) (by decide +kernel) rfl rfl rfl ?_
  · intro pm code doc vs hv
    (apply len2 hv; exact fun _ _ => rfl)
  · obtain ⟨q1, q2, q3⟩ := cutGo_len xs row [] [] hl (fun p hp => by cases hp) (by simp) rfl
    refine Ex.cons (Ex1.twoOwn (a := "told") (b := "pieces") rfl rfl (fun _ => rfl) (fun F h => by cases F; subst h; rfl)) ?_
    refine Ex.cons (Ex1.for_ (EvI.grp (gs := gs) (xs := xs) (ends := ends) D.T (by omega) (by omega) D.grp rfl (by omega) hg rfl (Ev.nm rfl) (fun _ _ => rfl) (fun _ => rfl)) (ExF.weak (cut_for D.T.nb ends xs row [] [] (by simp) (he.imp id fun h => by simp; omega) hl (by simp) rfl) (subL.out ⟨rfl, rfl, rfl, trivial⟩)) (fun _ _ => rfl)) ?_
    unfold cutF
    generalize cutGo xs row [] [] = r at *
    refine Ex.freeze (x := "told") (xs := its r.1) rfl (Ex.freeze (x := "pieces") (xs := sts r.2.1) rfl ?_)
    refine Ex.stop (Ex1.ret (Ev.mkT (EvL.cons (Ev.nm rfl) (EvL.cons (Ev.compr [] (EvI.list (Ev.to (Ev.bin (Ev.nm rfl) (Ev.mkL (xs := sts [r.2.2]) (EvL.cons (Ev.nm rfl) EvL.nil (fun _ => rfl)) (by simp [sts])) (BinV.addL (by rw [sts_len]; simp [sts]; omega))) (congrArg PV.list (sts_snoc r.2.1 r.2.2).symm))) (by rw [sts_len]; simp; omega) rfl trivial rfl (fun _ _ => rfl)
      (CompOk.map (fun w => .str w) (fun p => !p.isEmpty) (fun w => .str w) (r.2.1 ++ [r.2.2]) fun w hw => ⟨_, AsV.name (.inl rfl), Tests.cond (EvT.cmp (Ev.nm rfl) (Ev.cStr (c := []) rfl) CmpV.neS rfl) (by cases w <;> rfl), fun _ => Ev.nm rfl, trivial⟩)) EvL.nil (fun _ => rfl)) (fun _ => rfl)) (by simp))) rfl
end
end Mine
namespace Mine

def oneL (c : Tx) : List Tx := c.map fun x => [x]
def markP (piece : Tx) (x : Nat) : Tx := if subIn [x] piece then [x] else [34, x, 34]
def inOrd (piece word : Tx) : Option Bool :=
  if (ellM (dots ++ joinT dots (oneL piece) ++ dots) word) == (stripQ ([34, 92, 34, 34] ++ joinT [] (word.map (markP piece)) ++ [34]) == piece ++ [34]) then some (ellM (dots ++ joinT dots (oneL piece) ++ dots) word) else none
def optB : Option Bool → PV
  | none => .none
  | some b => .bool b
theorem joinT_len (sep : Tx) (l : List Tx) : (joinT sep l).length ≤ joinW sep l := by
  have key : ∀ (r : List Tx) (a : Tx), (r.foldl (fun acc p => acc ++ sep ++ p) a).length = a.length + (r.map fun t => t.length + sep.length).sum := by
    intro r
    induction r with
    | nil => intro a; simp
    | cons b r ih => intro a; rw [List.foldl_cons, ih, List.map_cons, List.sum_cons]; simp; omega
  cases l with
  | nil => simp [joinT]
  | cons a r =>
    show (r.foldl (fun acc p => acc ++ sep ++ p) a).length ≤ _
    rw [key]
    unfold joinW
    rw [List.map_cons, List.sum_cons]
    omega
theorem joinW_oneL (sep c : Tx) : joinW sep (oneL c) = c.length * (1 + sep.length) := by
  unfold joinW oneL
  induction c with
  | nil => simp
  | cons a r ih => simp only [List.map_cons, List.sum_cons, List.length_cons, List.length_nil] at *; rw [ih, Nat.succ_mul]; omega
theorem mark_len (piece : Tx) (l : Tx) : joinW [] (l.map (markP piece)) ≤ 3 * l.length := by
  unfold joinW
  induction l with
  | nil => simp
  | cons a r ih =>
    have : (markP piece a).length ≤ 3 := by unfold markP; split <;> simp
    simp only [List.map_cons, List.sum_cons, List.length_cons, List.length_nil] at *; omega

section
variable {G : Gc} {n : Nat} {σ : Loc}
set_option maxHeartbeats 1000000

theorem CallV.joinS {sep c : Tx} (h1 : c.length ≤ 1000) (h2 : sep.length ≤ 1000) : CallV G n (.builtin "str.join") [.str sep, .str c] (.str (joinT sep (oneL c))) := by
  intro A Z s vs Q E ok bs zl r h
  simp only [Reps, Rep] at r
  obtain ⟨v, ws, rfl, ⟨t, rfl⟩, w, us, rfl, ⟨u, rfl⟩, rfl⟩ := r
  refine SC.joinStr ok.1 (joinOk_signsN (N := 1000) (S := 1000) (by rw [mkS_len]; exact h1) (by rw [mkS_len]; exact h2) (by omega)) fun h' k t' hk => ?_
  have e : PyProof.Rows.signs (mkS c) = (oneL c).map mkS := by
    unfold PyProof.Rows.signs oneL
    rw [List.map_map]
    rfl
  rw [e, join_mkS]
  exact h _ _ Z (Ext0.heap hk) (ZG.same zl (Ext0.heap (tk := k) hk)) (by simp [Rep])

theorem fn_inord (D : Defs G) (hn : n ≤ 800) (hm : dInOrd ∈ recsOf G.p) (piece word : Tx) (h1 : piece.length ≤ 200) (h2 : word.length ≤ 200) : Fn G (n + 42) "_law_in_order" [.str piece, .str word] (optB (inOrd piece word)) := by
  refine Fn.intro (d := dInOrd) (ns := ["piece", "word"]) hm (by rfl) ?_ (by decide) (by decide +kernel) (by decide +kernel) rfl rfl rfl ?_
  · intro pm code doc vs hv
    (apply len2 hv; exact fun _ _ => rfl)
  · have j1 := joinT_len dots (oneL piece)
    rw [joinW_oneL] at j1
    have j2 := joinT_len [] (word.map (markP piece))
    have j3 := mark_len piece word
    have jl : (dots ++ joinT dots (oneL piece) ++ dots).length ≤ 1000 := by simp only [List.length_append, List.length_cons, List.length_nil] at *; omega
    refine Ex.cons (Ex1.assign (Ev.callF (by decide) rfl (EvL.cons (Ev.bin (Ev.bin (Ev.cStr (c := dots) rfl) (Ev.methS PySem.F.slot_str_join PySem.F.type_str_join (Ev.cStr (c := dots) rfl) (EvL.cons (Ev.nm rfl) EvL.nil (fun _ => rfl)) (CallV.joinS (by omega) (by simp)) (fun _ => rfl) (fun _ => rfl) rfl (fun _ _ => rfl) (fun _ _ => rfl)) (BinV.addS (by simp only [List.length_append, List.length_cons, List.length_nil] at *; omega))) (Ev.cStr (c := dots) rfl) (BinV.addS (by simp only [List.length_append, List.length_cons, List.length_nil] at *; omega)))
      (EvL.cons (Ev.nm rfl) EvL.nil (fun _ => rfl)) (fun _ => rfl)) D.ell (by rfl) (fn_ell (n := n + 40) D.T D.ell _ word (by omega) (by omega)) (fun _ _ => rfl)) (.inl rfl) (fun _ => rfl)) ?_
    unfold inOrd
    generalize ellM (dots ++ joinT dots (oneL piece) ++ dots) word = found
    have hc : Ev G (n + 41) dInOrd.scope [("found", .val (.bool found)), ("piece", .val (.str piece)), ("word", .val (.str word))] (match stAt dInOrd.body 1 with | .Assign _ e _ => e | _ => default) (.str (joinT [] (word.map (markP piece)))) := by
      have hl : Ev G (n + 41) dInOrd.scope [("found", .val (.bool found)), ("piece", .val (.str piece)), ("word", .val (.str word))] (match stAt dInOrd.body 1 with | .Assign _ (.Call _ [e] _ _) _ => e | _ => default) (.list (sts (word.map (markP piece)))) := by
        refine Ev.to (Ev.compr [("piece", .val (.str piece))] (EvI.str (Ev.nm rfl)) (by simp [signs]; omega) rfl ⟨rfl, trivial⟩ rfl (fun _ _ => rfl)
          (CompOk.map (fun a => .str [a]) (fun _ => true) (fun a => .str (markP piece a)) word fun a ha => ⟨_, AsV.name (.inl rfl), .nil, fun _ => Ev.ite (c := subIn [a] piece) (EvT.cmp (Ev.nm rfl) (Ev.nm rfl) CmpV.inS rfl) (fun h => Ev.to (Ev.nm (pv := .str [a]) rfl) (by unfold markP; rw [h]; rfl))
            (fun h => Ev.to (Ev.bin (Ev.bin (Ev.cStr (c := [34]) rfl) (Ev.nm (pv := .str [a]) rfl) (BinV.addS (by simp))) (Ev.cStr (c := [34]) rfl) (BinV.addS (by simp))) (by unfold markP; rw [h]; rfl)), ⟨rfl, trivial⟩⟩)) ?_
        rw [List.filter_eq_self.mpr (fun _ _ => rfl), sts, List.map_map]; rfl
      exact Ev.methS PySem.F.slot_str_join PySem.F.type_str_join (Ev.cStr (c := []) rfl) (EvL.cons hl EvL.nil (fun _ => rfl)) (CallV.join (by omega)) (fun _ => rfl) (fun _ => rfl) rfl (fun _ _ => rfl) (fun _ _ => rfl)
    refine Ex.cons (Ex1.assign (hc.run |> fun r => ⟨fun F A Z W s Q E a b c d => r F A Z W s Q E a b (c.weak (subL.out ⟨rfl, rfl, rfl, trivial⟩)) d⟩) (.inl rfl) (fun _ => rfl)) ?_
    generalize joinT [] (word.map (markP piece)) = mk at *
    have hmk : ([34, 92, 34, 34] ++ mk ++ [34]).length ≤ 900 := by simp only [List.length_append, List.length_cons, List.length_nil]; omega
    refine Ex.cons (Ex1.assign (Ev.callF (by decide) rfl (EvL.cons (Ev.bin (Ev.bin (Ev.cStr (c := [34, 92, 34, 34]) rfl) (Ev.nm rfl) (BinV.addS (by simp; omega))) (Ev.cStr (c := [34]) rfl) (BinV.addS (by simp; omega))) EvL.nil (fun _ => rfl)) D.strip (by rfl) (fn_strip (n := n + 40) D.T (by omega) (by omega) D.strip D.iter _ hmk) (fun _ _ => rfl)) (.inl rfl) (fun _ => rfl)) ?_
    generalize stripQ ([34, 92, 34, 34] ++ mk ++ [34]) = left
    have test : ∀ {σ : Loc} {b : Bool}, σ.lookup ("found" : Str) = some (.val (.bool found)) → σ.lookup ("left" : Str) = some (.val (.str left)) → σ.lookup ("piece" : Str) = some (.val (.str piece)) → (!(found == (left == piece ++ [34]))) = b → EvT G (n + 41) dInOrd.scope σ (match stAt dInOrd.body 3 with | .If t _ _ _ => t | _ => default) b := fun {σ b} a1 a2 a3 hb =>
      EvT.to (EvT.cmp (a := .bool found) (b := .bool (left == piece ++ [34])) (Ev.nm a1) (Ev.cmp (Ev.nm a2) (Ev.bin (Ev.nm a3) (Ev.cStr (c := [34]) rfl) (BinV.addS (by simp; omega))) CmpV.eqS rfl) (CmpV.isNot rfl) rfl) hb
    cases hq : found == (left == piece ++ [34]) with
    | true =>
      rw [if_pos rfl]
      exact Ex.cons (Ex1.if_ (c := false) (test rfl rfl rfl (by rw [hq]; rfl)) Ex.nil) (Ex.stop (Ex1.ret (Ev.nm rfl)) rfl)
    | false =>
      rw [if_neg Bool.false_ne_true]
      exact Ex.stop (Ex1.if_ (c := true) (test rfl rfl rfl (by rw [hq]; rfl)) (Ex.stop (Ex1.ret Ev.cNone) rfl)) rfl
end
end Mine
namespace Mine

def endCut (word : Tx) (c : Nat) : Bool := !(ellM (word.take c ++ dots ++ word.drop 2) word == (c == 2)) || !(ellM (dots ++ (word.take c ++ dots ++ word.drop 2) ++ dots) word == (c == 2))
def endZ (word : Tx) (a b z : Nat) : Bool := !(ellM ([a] ++ dots ++ [z] ++ dots ++ [b]) word == subIn [z] (slcN word 1 4))
def endsF (word : Tx) : Bool := if endCut word 2 || endCut word 3 then false else
  if word.any (endZ word (word.getD 0 0) (word.getD 4 0)) then false else ([word.take 4, word.drop 1].filter fun part => ellM part word || ellM word part).isEmpty

section
variable {G : Gc} {n : Nat} {σ : Loc}
set_option maxHeartbeats 1000000

theorem bool_is (a b : Bool) : pis (.bool a) (.bool b) = (a == b) := by cases a <;> cases b <;> rfl
theorem ends_test (D : Defs G) (word : Tx) (c : Nat) (hl : word.length ≤ 100) (hc : c ≤ word.length) (h2 : 2 ≤ word.length) : EvT G (n + 1) dEnds.scope [("parts", .val (.str (word.take c ++ dots ++ word.drop 2))), ("cut", .val (.int c)), ("word", .val (.str word))]
    (match stAt (forBody (stAt dEnds.body 0)) 1 with | .If t _ _ _ => t | _ => default) (endCut word c) := by
  have e2 : ((c : Int) == 2) = (c == 2) := by rw [Bool.eq_iff_iff]; simp; omega
  have hpl : (word.take c ++ dots ++ word.drop 2).length ≤ 300 := by simp; omega
  unfold endCut
  generalize word.take c ++ dots ++ word.drop 2 = parts at *
  refine EvT.to (EvT.bools (EvA.or (a := !(ellM parts word == (c == 2))) (b := !(ellM (dots ++ parts ++ dots) word == (c == 2)) || false) (EvT.to (EvT.cmp (a := .bool (ellM parts word)) (b := .bool ((c : Int) == 2)) (Ev.callF (by decide) rfl (EvL.cons (Ev.nm rfl) (EvL.cons (Ev.nm rfl) EvL.nil (fun _ => rfl)) (fun _ => rfl)) D.ell (by rfl) (fn_ell D.T D.ell _ _ (by omega) (by omega)) (fun _ _ => rfl))
      (Ev.cmp (Ev.nm rfl) Ev.cInt CmpV.eqI rfl) (CmpV.isNot rfl) rfl) (by rw [bool_is, e2]))
    (fun _ => EvA.or (EvT.to (EvT.cmp (a := .bool (ellM (dots ++ parts ++ dots) word)) (b := .bool ((c : Int) == 2)) (Ev.callF (by decide) rfl (EvL.cons (Ev.bin (Ev.bin (Ev.cStr (c := dots) rfl) (Ev.nm rfl) (BinV.addS (by simp; omega))) (Ev.cStr (c := dots) rfl) (BinV.addS (by simp; omega))) (EvL.cons (Ev.nm rfl) EvL.nil (fun _ => rfl)) (fun _ => rfl)) D.ell (by rfl) (fn_ell D.T D.ell _ _ (by simp; omega) (by omega)) (fun _ _ => rfl))
      (Ev.cmp (Ev.nm rfl) Ev.cInt CmpV.eqI rfl) (CmpV.isNot rfl) rfl) (by rw [bool_is, e2])) (fun _ => EvA.or0)))) ?_
  simp
theorem ends_asg (word : Tx) (c : Nat) (hl : word.length ≤ 100) (hc : c ≤ word.length) (h2 : 2 ≤ word.length) : Ex1 G n dEnds.scope [("cut", .val (.int c)), ("word", .val (.str word))] (stAt (forBody (stAt dEnds.body 0)) 0)
    (.next [("parts", .val (.str (word.take c ++ dots ++ word.drop 2))), ("cut", .val (.int c)), ("word", .val (.str word))]) :=
  Ex1.assign (Ev.bin (Ev.bin (Ev.to (Ev.slcS (Ev.nm rfl) EvP.no (EvP.at (Ev.nm rfl)) (by omega)) (congrArg PV.str (slc_to word c hc))) (Ev.cStr (c := dots) rfl) (BinV.addS (by simp; omega))) (Ev.to (Ev.slcS (Ev.nm rfl) (EvP.at (i := ((2 : Nat) : Int)) Ev.cInt) EvP.no (by omega)) (congrArg PV.str (slc_from word 2 h2))) (BinV.addS (by simp; omega))) (.inl rfl) (fun _ => rfl)

theorem ends_zs (D : Defs G) (word : Tx) (a b : Nat) (hl : word.length = 5) (ha : word[0]? = some a) (hb : word[4]? = some b) : ∀ (zs : Tx),
    ExF G (n + 1) dEnds.scope [("word", .val (.str word))] (forTgt (stAt dEnds.body 1)) (chs zs) true (forBody (stAt dEnds.body 1)) [] (match zs.any (endZ word a b) with | true => .ret (.bool false) | false => .next [("word", .val (.str word))]) := by
  intro zs
  induction zs with
  | nil => exact ExF.nil (Ex.fin ⟨rfl, trivial⟩)
  | cons z zs ih =>
    have s1 := slc_nat word 1 4 (by omega) (by omega)
    have test : EvT G (n + 1) dEnds.scope [("z", .val (.str [z])), ("word", .val (.str word))] (match stAt (forBody (stAt dEnds.body 1)) 0 with | .If t _ _ _ => t | _ => default) (endZ word a b z) := by
      unfold endZ
      exact EvT.to (EvT.cmp (a := .bool (ellM ([a] ++ dots ++ [z] ++ dots ++ [b]) word)) (b := .bool (subIn [z] (slcN word 1 4)))
        (Ev.callF (by decide) rfl (EvL.cons (Ev.bin (Ev.bin (Ev.bin (Ev.bin (Ev.idxS (x := a) (Ev.nm rfl) (Ev.cInt (i := ((0 : Nat) : Int))) (by rw [getI_nat]; exact ha) (by omega) (fun _ _ => rfl)) (Ev.cStr (c := dots) rfl) (BinV.addS (by simp))) (Ev.nm rfl) (BinV.addS (by simp))) (Ev.cStr (c := dots) rfl) (BinV.addS (by simp)))
            (Ev.idxS (x := b) (Ev.nm rfl) (Ev.cInt (i := ((4 : Nat) : Int))) (by rw [getI_nat]; exact hb) (by omega) (fun _ _ => rfl)) (BinV.addS (by simp))) (EvL.cons (Ev.nm rfl) EvL.nil (fun _ => rfl)) (fun _ => rfl)) D.ell (by rfl) (fn_ell D.T D.ell _ _ (by simp) (by omega)) (fun _ _ => rfl))
        (Ev.cmp (Ev.nm rfl) (Ev.to (Ev.slcS (Ev.nm rfl) (EvP.at (i := ((1 : Nat) : Int)) Ev.cInt) (EvP.at (i := ((4 : Nat) : Int)) Ev.cInt) (by omega)) (congrArg PV.str s1)) CmpV.inS rfl) (CmpV.isNot rfl) rfl) (by rw [bool_is])
    cases hz : endZ word a b z with
    | true =>
      rw [hz] at test
      have : (z :: zs).any (endZ word a b) = true := by simp [hz]
      rw [this]
      exact ExF.ret (AsV.name (.inl rfl)) (Ex.stop (Ex1.if_ (c := true) test (Ex.stop (Ex1.ret Ev.cBool) rfl)) rfl)
    | false =>
      rw [hz] at test
      have : (z :: zs).any (endZ word a b) = zs.any (endZ word a b) := by simp [hz]
      rw [this]
      exact ExF.next (τ' := [("word", .val (.str word))]) (AsV.name (.inl rfl)) (Ex.cons (Ex1.if_ (c := false) test Ex.nil) (Ex.fin ⟨rfl, trivial⟩)) ih
theorem fn_ends (D : Defs G) (hm : dEnds ∈ recsOf G.p) (word : Tx) (hl : word.length = 5) (hok : okT word) : Fn G (n + 2) "_law_ends_meet" [.str word] (.bool (endsF word)) := by
  refine Fn.intro (d := dEnds) (ns := ["word"]) hm (by rfl) ?_ (by decide) (by decide +kernel) (by decide +kernel) rfl rfl rfl ?_
  · intro pm code doc vs hv
    (apply len1 hv; exact fun _ => rfl)
  · have t2 := ends_test (n := n) D word 2 (by omega) (by omega) (by omega)
    have t3 := ends_test (n := n) D word 3 (by omega) (by omega) (by omega)
    have a2 := ends_asg (G := G) (n := n + 1) word 2 (by omega) (by omega) (by omega)
    have a3 := ends_asg (G := G) (n := n + 1) word 3 (by omega) (by omega) (by omega)
    have itr : EvI G (n + 1) dEnds.scope (slots ["word"] [.str word]) (match stAt dEnds.body 0 with | .For _ i _ _ _ => i | _ => default) [.int ((2 : Nat) : Int), .int ((3 : Nat) : Int)] true := EvI.tup (Ev.mkT (EvL.cons Ev.cInt (EvL.cons Ev.cInt EvL.nil (fun _ => rfl)) (fun _ => rfl)) (by simp))
    unfold endsF
    cases h2 : endCut word 2 with
    | true =>
      rw [h2] at t2
      rw [Bool.true_or, if_pos rfl]
      exact Ex.stop (Ex1.for_ itr (ExF.ret (AsV.name (.inl rfl)) (Ex.cons a2 (Ex.stop (Ex1.if_ (c := true) t2 (Ex.stop (Ex1.ret Ev.cBool) rfl)) rfl))) (fun _ _ => rfl)) rfl
    | false =>
      rw [h2] at t2
      cases h3 : endCut word 3 with
      | true =>
        rw [h3] at t3
        rw [Bool.false_or, if_pos rfl]
        exact Ex.stop (Ex1.for_ itr (ExF.next (τ' := [("word", .val (.str word))]) (AsV.name (.inl rfl)) (Ex.cons a2 (Ex.cons (Ex1.if_ (c := false) t2 Ex.nil) (Ex.fin ⟨rfl, trivial⟩)))
          (ExF.ret (AsV.name (.inl rfl)) (Ex.cons a3 (Ex.stop (Ex1.if_ (c := true) t3 (Ex.stop (Ex1.ret Ev.cBool) rfl)) rfl)))) (fun _ _ => rfl)) rfl
      | false =>
        rw [h3] at t3
        rw [Bool.false_or, if_neg Bool.false_ne_true]
        refine Ex.cons (τ := [("word", .val (.str word))]) (Ex1.for_ itr (ExF.next (τ' := [("word", .val (.str word))]) (AsV.name (.inl rfl)) (Ex.cons a2 (Ex.cons (Ex1.if_ (c := false) t2 Ex.nil) (Ex.fin ⟨rfl, trivial⟩)))
          (ExF.next (τ' := [("word", .val (.str word))]) (AsV.name (.inl rfl)) (Ex.cons a3 (Ex.cons (Ex1.if_ (c := false) t3 Ex.nil) (Ex.fin ⟨rfl, trivial⟩))) (ExF.nil (Ex.fin ⟨rfl, trivial⟩)))) (fun _ _ => rfl)) ?_
        have ha : word[0]? = some (word.getD 0 0) := by rw [List.getElem?_eq_getElem (by omega)]; simp [List.getElem?_eq_getElem (show 0 < word.length by omega)]
        have hb : word[4]? = some (word.getD 4 0) := by rw [List.getElem?_eq_getElem (by omega)]; simp [List.getElem?_eq_getElem (show 4 < word.length by omega)]
        have key := ends_zs (n := n) D word _ _ hl ha hb word
        cases hz : word.any (endZ word (word.getD 0 0) (word.getD 4 0)) with
        | true =>
          rw [hz] at key
          rw [if_pos rfl]
          exact Ex.stop (Ex1.for_ (EvI.str (Ev.nm rfl)) key (fun _ _ => rfl)) rfl
        | false =>
          rw [hz] at key
          rw [if_neg Bool.false_ne_true]
          refine Ex.cons (Ex1.for_ (EvI.str (Ev.nm rfl)) key (fun _ _ => rfl)) ?_
          refine Ex.stop (Ex1.ret (Ev.to (Ev.cmp (Ev.compr [("word", .val (.str word))] (EvI.tup (xs := sts [word.take 4, word.drop 1]) (Ev.mkT (EvL.cons (Ev.to (Ev.slcS (Ev.nm rfl) EvP.no (EvP.at (i := ((4 : Nat) : Int)) Ev.cInt) (by omega)) (congrArg PV.str (slc_to word 4 (by omega)))) (EvL.cons (Ev.to (Ev.slcS (Ev.nm rfl) (EvP.at (i := ((1 : Nat) : Int)) Ev.cInt) EvP.no (by omega)) (congrArg PV.str (slc_from word 1 (by omega)))) EvL.nil (fun _ => rfl)) (fun _ => rfl)) (by simp [sts]))) (by simp [sts]) rfl ⟨rfl, trivial⟩ rfl (fun _ _ => rfl)
            (CompOk.map (fun w => .str w) (fun part => ellM part word || ellM word part) (fun w => .str w) [word.take 4, word.drop 1] fun w hw => by
              have hwl : w.length ≤ 5 := by
                rcases List.mem_cons.mp hw with rfl | hw
                · simp; omega
                · rw [List.mem_singleton.mp hw]; simp; omega
              exact ⟨_, AsV.name (.inl rfl), Tests.cond (EvT.bools (EvA.or (EvT.val (Ev.callF (by decide) rfl (EvL.cons (Ev.nm rfl) (EvL.cons (Ev.nm rfl) EvL.nil (fun _ => rfl)) (fun _ => rfl)) D.ell (by rfl) (fn_ell D.T D.ell w word (by omega) (by omega)) (fun _ _ => rfl)) rfl (fun _ e => by cases e) (fun _ e => by cases e) (fun _ => rfl))
                (fun _ => EvA.or (EvT.val (Ev.callF (by decide) rfl (EvL.cons (Ev.nm rfl) (EvL.cons (Ev.nm rfl) EvL.nil (fun _ => rfl)) (fun _ => rfl)) D.ell (by rfl) (fn_ell D.T D.ell word w (by omega) (by omega)) (fun _ _ => rfl)) rfl (fun _ e => by cases e) (fun _ e => by cases e) (fun _ => rfl)) (fun _ => EvA.or0)))) (by simp), fun _ => Ev.nm rfl, ⟨rfl, trivial⟩⟩))
            (Ev.mkL EvL.nil (by simp)) (CmpV.eqNil (pok_strs (l := [word.take 4, word.drop 1].filter fun part => ellM part word || ellM word part) (fun c hc => ?_) 2)) rfl) ?_)) rfl
          · have hc := (List.mem_filter.mp hc).1
            rcases List.mem_cons.mp hc with rfl | hc
            · exact fun x hx => hok x (List.mem_of_mem_take hx)
            · rw [List.mem_singleton.mp hc]; exact fun x hx => hok x (List.mem_of_mem_drop hx)
          · congr 1
            rw [Bool.eq_iff_iff]; simp
end
end Mine
namespace Mine

/-- the first distinct letters -/
def letGo (word : Tx) (k : Nat) : Option Nat := match word[k]? with
  | some x => if subIn [x] (word.take k) then none else some x
  | none => none
def lettersOf (word : Tx) : Tx := ((List.range' 0 5).filter fun k => (letGo word k).isSome).map fun k => word.getD k 0
/-- the intervals, some of them at most -/
def grpX : Nat → Option Int → List Int → Option (List Int × Bool)
  | _, _, [] => some ([], true)
  | need, last, x :: t => if x == 127 then some ([], true) else if x == 0 then (match last, need with
      | some l, n + 1 => some (List.replicate (n + 1) l, false)
      | _, _ => none)
    else (match grpX (need - 1) (some x) t with
      | some (xs, e) => some (x :: xs, e)
      | none => none)
theorem grpX_ok : ∀ (gs : List Int) (need : Nat) (last : Option Int) (xs : List Int) (e : Bool), grpX need last gs = some (xs, e) → Grp last gs xs e
  | [], need, last, xs, e, h => by
    simp only [grpX, Option.some.injEq, Prod.mk.injEq] at h
    obtain ⟨rfl, rfl⟩ := h
    exact .nil
  | x :: t, need, last, xs, e, h => by
    unfold grpX at h
    split at h
    · rename_i hx
      cases h
      rw [beq_iff_eq.mp hx]; exact .stop
    · rename_i h1
      split at h
      · rename_i hx
        rw [beq_iff_eq.mp hx]
        split at h
        · cases h; exact .inf
        · cases h
      · rename_i h2
        split at h
        · rename_i ys e' hq
          cases h
          exact .cons (by simpa using h1) (by simpa using h2) (grpX_ok t _ _ _ _ hq)
        · cases h

def rowOf (text letters : Tx) : Tx := text.filter fun x => (oneL letters).contains [x]
def topsOf (text letters : Tx) : Tx := ((List.range' 0 15).filter fun k => (match text[k]? with | some x => (oneL letters).contains [x] && checkP (slcN text 1 k) | none => false)).map fun k => text.getD k 0
def joinedOf (pieces : List Tx) : List Tx := (List.range' 0 (pieces.length - 1)).map fun k => pieces.getD (k + 1) [] ++ pieces.getD k []

def lawCom (word : Tx) : Bool :=
  let letters := lettersOf word
  let g := grownF 5 word
  match wRun letters 25 [g.2] 0 with
  | none => false
  | some words =>
    words.length * prodF g.1 == 120 && words.all (fun one => grownF 5 one == g) && (words.filter (fun one => collI g.2 one == -1 && collI one g.2 == 1) == words.tail) && (words.filter (fun one => collI one word == 0) == [word]) &&
      (letters.filter (fun z => collI word [z] == -1) == letters.filter (fun z => decide (word.getD 0 0 < z))) && (words.filter (fun one => ellM word one) == [word]) && endsF word &&
      (letters.filter (fun z => ellM (dots ++ [z]) word) == topsOf g.1 letters) && (match letters.filter (fun z => ellM ([z] ++ dots) word) with | [f] => subIn [40, f, 41] g.1 && checkP ([40, 34, 41, 34] ++ [f] ++ [92, 41, 41]) | _ => false)
def lawForm (word : Tx) (form : Nat) : Bool :=
  let letters := lettersOf word
  let g := grownF 5 word
  let sizes := sizesF g.1
  let r := rulF sizes form
  match grpX 7 none r.1 with
  | none => false
  | some (xs, e) =>
    let c := cutF (rowOf g.1 letters) xs
    (e || decide (7 ≤ xs.length)) && decide (sizes ≠ []) && c.1 == r.2 && c.2.all (fun p => match inOrd p word with | some true => true | _ => false) && (joinedOf c.2).all (fun p => match inOrd p word with | some false => true | _ => false)
def lawB (word : Tx) : Bool := lawCom word && lawForm word 0 && lawForm word 1 && lawForm word 2 && lawForm word 3
end Mine
namespace Mine

structure Defs1 (G : Gc) : Prop extends Defs G where
  grown : dGrown ∈ recsOf G.p
  lets : dLet ∈ recsOf G.p
  words : dWords ∈ recsOf G.p
  prod : dProd ∈ recsOf G.p
  sizes : dSizes ∈ recsOf G.p
  ruler : dRuler ∈ recsOf G.p
  cut : dCut ∈ recsOf G.p
  inord : dInOrd ∈ recsOf G.p
  ends : dEnds ∈ recsOf G.p

section
variable {G : Gc} {n : Nat} {σ : Loc}
set_option maxHeartbeats 1000000

theorem chs_eq (l : Tx) : chs l = sts (oneL l) := by simp [chs, sts, oneL]
theorem sts_map {α : Type} (f : α → Tx) (l : List α) : l.map (fun a => PV.str (f a)) = sts (l.map f) := by simp [sts]
/-- x != [..] of lists of texts -/
theorem CmpV.neStrs {xs ys : List Tx} (h1 : ∀ c ∈ xs, okT c) (h2 : ∀ c ∈ ys, okT c) (h : xs = ys) : CmpV G n .NotEq (.list (sts xs)) (.list (sts ys)) (.bool false) := by
  have := CmpV.ne (G := G) (n := n) (a := .list (sts xs)) (b := .list (sts ys)) (k := 3) (m := 3) (pok_strs h1 2) (pok_strs h2 2) (by decide) (by decide)
  have e : ∀ l : List Tx, peqs (sts l) (sts l) = true := by
    intro l
    induction l with
    | nil => rfl
    | cons a r ih => simp only [sts, List.map_cons, peqs] at *; rw [ih]; simp [peq]
  subst h
  rw [show (!peq (.list (sts xs)) (.list (sts xs))) = false by simp only [peq, e]; rfl] at this
  exact this

theorem law_2 (D : Defs1 G) (w : Tx) (hl : w.length = 5) (nums : List Int) : Ex1 G n dLaw.scope [("word", .val (.str w)), ("numbers", .val (.list (its nums)))] (stAt dLaw.body 2) (.next (("letters", .val (.list (chs (lettersOf w)))) :: [("word", .val (.str w)), ("numbers", .val (.list (its nums)))])) := by
  have hk : ∀ k ∈ List.range' 0 5, k < w.length := fun k hk => by have := mem_upto hk; omega
  have ev : (((List.range' 0 5).filter fun k => (letGo w k).isSome).map fun (k : Nat) => PV.str [w.getD k 0]) = chs (lettersOf w) := by
    unfold lettersOf chs; rw [List.map_map]; rfl
  rw [← ev]
  refine Ex1.assignCompr [("word", .val (.str w))] (EvI.uptoN (lo := 0) (m := 5) (Ev.callT D.T.nb (by decide +kernel) (by decide) (by decide) (by decide) rfl (EvL.cons Ev.cInt EvL.nil (fun _ => rfl)) CallV.range1 (fun _ _ => rfl) (fun _ _ => rfl)) (by decide) (by omega) (by omega) (by omega))
    (by simp [nats]) rfl ⟨rfl, trivial⟩ rfl (fun _ _ => rfl) (.inr rfl)
    (CompOk.map (fun (k : Nat) => .int k) (fun k => (letGo w k).isSome) (fun (k : Nat) => .str [w.getD k 0]) (List.range' 0 5) fun k hk' => by
      have hkl := hk k hk'
      have hx : w[k]? = some w[k] := List.getElem?_eq_getElem hkl
      have hd : w.getD k 0 = w[k] := by simp [hx]
      have hidx : ∀ {m : Nat} {sc : Scope} {σ : Loc} {p q r : Pos}, σ.lookup ("word" : Str) = some (.val (.str w)) → σ.lookup ("k" : Str) = some (.val (.int k)) → Ev G m sc σ (.Subscript (.Name "word" p) (.Name "k" q) r) (.str [w[k]]) := fun a b =>
        Ev.idxS (x := w[k]) (Ev.nm a) (Ev.nm b) (by rw [getI_nat]; exact hx) (by omega) (fun _ _ => rfl)
      refine ⟨_, AsV.name (.inl rfl), Tests.cond (EvT.cmp (hidx rfl rfl) (Ev.to (Ev.slcS (Ev.nm rfl) EvP.no (EvP.at (Ev.nm rfl)) (by omega)) (congrArg PV.str (slc_to w k (by omega)))) CmpV.notInS rfl) ?_, fun _ => ?_, ⟨rfl, trivial⟩⟩
      · unfold letGo; rw [hx]
        show (!subIn [w[k]] (w.take k)) = (if subIn [w[k]] (w.take k) = true then none else some w[k]).isSome
        cases subIn [w[k]] (w.take k) <;> rfl
      · rw [hd]; exact hidx rfl rfl)

abbrev s2 (w : Tx) (nums : List Int) : Loc := [("letters", .val (.list (chs (lettersOf w)))), ("word", .val (.str w)), ("numbers", .val (.list (its nums)))]
abbrev s5 (w : Tx) (nums : List Int) (text least : Tx) (words : List Tx) : Loc := [("words", .val (.list (sts words))), ("text", .val (.str text)), ("least", .val (.str least)), ("letters", .val (.list (chs (lettersOf w)))), ("word", .val (.str w)), ("numbers", .val (.list (its nums)))]
/-- what is known of the words -/
structure Wd (w text least : Tx) (words : List Tx) : Prop where
  hl : w.length = 5
  hok : okT w
  hg : grownF 5 w = (text, least)
  lt : text.length = 15
  ll : least.length = 5
  okt : okT text
  okl : okT least
  wok : wOk 5 words
  wlen : words.length ≤ 1000

theorem pok_two {a b : Tx} (ha : okT a) (hb : okT b) : pok 3 (.tup [.str a, .str b]) = true := by
  show ((pok 2 (.str a)) && (pok 2 (.str b) && true)) = true
  rw [okT_pok ha, okT_pok hb]; rfl
theorem law_3 (D : Defs1 G) (w text least : Tx) (hl : w.length = 5) (hg : grownF 5 w = (text, least)) (nums : List Int) : Ex1 G (n + 50) dLaw.scope (s2 w nums) (stAt dLaw.body 3) (.next (("least", .val (.str least)) :: ("text", .val (.str text)) :: s2 w nums)) := by
  have := fn_grown (G := G) D.grown (n + 44) 5 w (by omega) (by omega)
  rw [hg] at this
  exact Ex1.assignT (Ev.callF (by decide) rfl (EvL.cons (Ev.nm rfl) EvL.nil (fun _ => rfl)) D.grown (by rfl) this (fun _ _ => rfl)) (AsV.tup (AsL.cons (AsV.name (.inr ⟨rfl, rfl⟩)) (AsL.cons (AsV.name (.inr ⟨rfl, rfl⟩)) AsL.nil)) rfl (fun _ => rfl)) (fun _ => rfl) (fun _ => rfl)
theorem law_4 (D : Defs1 G) (w text least : Tx) (words : List Tx) (nums : List Int) (h5 : least.length = 5) (hok : okT least) (hw : wRun (lettersOf w) 25 [least] 0 = some words) :
    Ex1 G (n + 50) dLaw.scope (("least", .val (.str least)) :: ("text", .val (.str text)) :: s2 w nums) (stAt dLaw.body 4) (.next (("words", .val (.list (sts words))) :: ("least", .val (.str least)) :: ("text", .val (.str text)) :: s2 w nums)) :=
  Ex1.assign (Ev.callF (by decide) rfl (EvL.cons (Ev.nm rfl) (EvL.cons (Ev.nm rfl) EvL.nil (fun _ => rfl)) (fun _ => rfl)) D.words (by rfl) (fn_words (n := n + 47) D.toDefs D.lets D.words least (lettersOf w) 25 words (by omega) (by omega) hok (by omega) hw) (fun _ _ => rfl)) (.inl rfl) (fun _ => rfl)

theorem law_5 (D : Defs1 G) (hn : n ≤ 500) (w text least : Tx) (words : List Tx) (nums : List Int) (W : Wd w text least words) (h1 : words.length * prodF text = 120) (h2 : ∀ one ∈ words, grownF 5 one = (text, least)) :
    Ex1 G (n + 50) dLaw.scope (s5 w nums text least words) (stAt dLaw.body 5) (.next (s5 w nums text least words)) := by
  have hwl := W.wlen
  have hlt := W.lt
  have hp : prodF text ≤ 120 := by
    rcases Nat.eq_zero_or_pos words.length with h | h
    · rw [h] at h1; omega
    · have := Nat.le_mul_of_pos_left (prodF text) h; omega
  refine Ex1.if_ (c := false) (EvT.to (EvT.bools (EvA.or (a := false) (b := false) (EvT.to (EvT.cmp (Ev.bin (Ev.callB D.T.nb (by decide +kernel) (by decide) (by decide) (by decide) rfl (EvL.cons (Ev.nm rfl) EvL.nil (fun _ => rfl)) (CallV.lenL (by rw [sts_len]; omega)) (fun _ _ => rfl) (fun _ _ => rfl))
      (Ev.callF (by decide) rfl (EvL.cons (Ev.nm rfl) EvL.nil (fun _ => rfl)) D.prod (by rfl) (fn_prod (n := n + 7) D.toDefs (by omega) D.prod text (by omega)) (fun _ _ => rfl)) (BinV.mulI (IntMulOk.of_right (intBits_le_64 (by omega) (by omega))))) Ev.cInt CmpV.neI rfl) ?_)
    (fun _ => EvA.or (a := false) (b := false) (EvT.to (EvT.cmp (Ev.compr [("text", .val (.str text)), ("least", .val (.str least))] (EvI.list (Ev.nm rfl)) (by rw [sts_len]; omega) rfl ⟨rfl, rfl, trivial⟩ rfl (fun _ _ => rfl)
        (CompOk.map (fun w => .str w) (fun _ => false) (fun w => .str w) words fun one ho => ?_)) (Ev.mkL EvL.nil (by simp)) (CmpV.neNil ?_) rfl) ?_) (fun _ => EvA.or0)))) rfl) Ex.nil
  · rw [sts_len, ← Int.natCast_mul, h1]; rfl
  · have hol := (W.wok one ho).1
    have fg := fn_grown (G := G) D.grown (n + 44) 5 one (by omega) (by omega)
    rw [h2 one ho] at fg
    refine ⟨_, AsV.name (.inl rfl), Tests.cond (EvT.cmp (Ev.callF (by decide) rfl (EvL.cons (Ev.nm rfl) EvL.nil (fun _ => rfl)) D.grown (by rfl) fg (fun _ _ => rfl)) (Ev.mkT (EvL.cons (Ev.nm rfl) (EvL.cons (Ev.nm rfl) EvL.nil (fun _ => rfl)) (fun _ => rfl)) (by simp)) (CmpV.ne (k := 3) (m := 3) ?_ ?_ (by decide) (by decide)) rfl) ?_, (fun h => by cases h), ⟨rfl, rfl, trivial⟩⟩
    · exact pok_two W.okt W.okl
    · exact pok_two W.okt W.okl
    · simp [peq, peqs]
  · rw [List.filter_eq_nil_iff.mpr (fun _ _ => Bool.false_ne_true)]; rfl
  · rw [List.filter_eq_nil_iff.mpr (fun _ _ => Bool.false_ne_true)]; rfl
end
end Mine
namespace Mine

theorem slcG_from {α : Type} (l : List α) (lo : Nat) : slc l (some (lo : Int)) none = l.drop lo := by
  unfold slc clip
  have e1 : (if (lo : Int) < 0 then (lo : Int) + (l.length : Int) else lo) = lo := if_neg (by omega)
  simp only [e1, Int.toNat_natCast]
  rcases Nat.le_total lo l.length with h | h
  · rw [Nat.min_eq_left h, List.take_of_length_le (by rw [List.length_drop]; omega)]
  · rw [Nat.min_eq_right h, List.drop_of_length_le (Nat.le_refl _), List.drop_of_length_le h]; simp

section
variable {G : Gc} {n : Nat} {σ : Loc}
set_option maxHeartbeats 1000000

theorem Wd.okw {w text least : Tx} {words : List Tx} (W : Wd w text least words) : ∀ c ∈ words, okT c := fun c hc => (W.wok c hc).2
theorem law_6 (D : Defs1 G) (w text least : Tx) (words : List Tx) (nums : List Int) (W : Wd w text least words) (h : words.filter (fun one => collI least one == -1 && collI one least == 1) = words.tail) :
    Ex1 G (n + 1) dLaw.scope (s5 w nums text least words) (stAt dLaw.body 6) (.next (s5 w nums text least words)) := by
  have hwl := W.wlen
  have et : slc (sts words) (some ((1 : Nat) : Int)) none = sts words.tail := by rw [slcG_from, sts, sts, ← List.map_drop, List.drop_one]
  exact Ex1.if_ (c := false) (EvT.cmp (Ev.compr [("least", .val (.str least))] (EvI.list (Ev.nm rfl)) (by rw [sts_len]; omega) rfl ⟨rfl, trivial⟩ rfl (fun _ _ => rfl)
      (CompOk.map (fun w => .str w) (fun one => collI least one == -1 && collI one least == 1) (fun w => .str w) words fun one ho => ⟨_, AsV.name (.inl rfl), Tests.cond (EvT.bools (EvA.and (a := collI least one == -1) (EvT.cmp (a := .int (collI least one)) (Ev.callF (by decide) rfl (EvL.cons (Ev.nm rfl) (EvL.cons (Ev.nm rfl) EvL.nil (fun _ => rfl)) (fun _ => rfl)) D.coll (by rfl) (fn_coll D.coll least one) (fun _ _ => rfl)) (Ev.neg Ev.cInt) CmpV.eqI rfl)
        (fun _ => EvA.and (a := collI one least == 1) (b := true) (EvT.cmp (a := .int (collI one least)) (Ev.callF (by decide) rfl (EvL.cons (Ev.nm rfl) (EvL.cons (Ev.nm rfl) EvL.nil (fun _ => rfl)) (fun _ => rfl)) D.coll (by rfl) (fn_coll D.coll one least) (fun _ _ => rfl)) Ev.cInt CmpV.eqI rfl) (fun _ => EvA.and0)))) (by simp), fun _ => Ev.nm rfl, ⟨rfl, trivial⟩⟩))
    (Ev.to (Ev.slcL (Ev.nm rfl) (EvP.at (i := ((1 : Nat) : Int)) Ev.cInt) EvP.no (by rw [sts_len]; omega)) (congrArg PV.list et)) (CmpV.neStrs (xs := words.filter (fun one => collI least one == -1 && collI one least == 1)) (fun c hc => W.okw c (List.mem_filter.mp hc).1) (fun c hc => W.okw c (List.mem_of_mem_tail hc)) h) rfl) Ex.nil
theorem law_7 (D : Defs1 G) (w text least : Tx) (words : List Tx) (nums : List Int) (W : Wd w text least words) (h : words.filter (fun one => collI one w == 0) = [w]) :
    Ex1 G (n + 1) dLaw.scope (s5 w nums text least words) (stAt dLaw.body 7) (.next (s5 w nums text least words)) := by
  have hwl := W.wlen
  exact Ex1.if_ (c := false) (EvT.bools (EvA.or (a := false) (b := false) (EvT.cmp (Ev.compr [("word", .val (.str w))] (EvI.list (Ev.nm rfl)) (by rw [sts_len]; omega) rfl ⟨rfl, trivial⟩ rfl (fun _ _ => rfl)
      (CompOk.map (fun w => .str w) (fun one => collI one w == 0) (fun w => .str w) words fun one ho => ⟨_, AsV.name (.inl rfl), Tests.one (EvT.cmp (a := .int (collI one w)) (Ev.callF (by decide) rfl (EvL.cons (Ev.nm rfl) (EvL.cons (Ev.nm rfl) EvL.nil (fun _ => rfl)) (fun _ => rfl)) D.coll (by rfl) (fn_coll D.coll one w) (fun _ _ => rfl)) Ev.cInt CmpV.eqI rfl), fun _ => Ev.nm rfl, ⟨rfl, trivial⟩⟩))
    (Ev.mkL (xs := sts [w]) (EvL.cons (Ev.nm rfl) EvL.nil (fun _ => rfl)) (by simp [sts])) (CmpV.neStrs (xs := words.filter (fun one => collI one w == 0)) (fun c hc => W.okw c (List.mem_filter.mp hc).1) (fun c hc => by rw [List.mem_singleton.mp hc]; exact W.hok) h) rfl)
    (fun _ => EvA.or (a := false) (b := false) (EvT.val (Ev.isBool D.T.nb rfl rfl rfl rfl (Ev.callF (by decide) rfl (EvL.cons (Ev.nm rfl) (EvL.cons (Ev.nm rfl) EvL.nil (fun _ => rfl)) (fun _ => rfl)) D.coll (by rfl) (fn_coll D.coll w least) (fun _ _ => rfl)) (fun _ _ => rfl)) rfl (fun _ e => by cases e) (fun _ e => by cases e) (fun _ => rfl)) (fun _ => EvA.or0)))) Ex.nil
theorem okL {w : Tx} (h : okT w) : okT (lettersOf w) := fun x hx => by
  unfold lettersOf at hx
  obtain ⟨k, hk, rfl⟩ := List.mem_map.mp hx
  have := (List.mem_filter.mp hk).2
  unfold letGo at this
  cases hq : w[k]? with
  | none => rw [hq] at this; cases this
  | some y =>
    have : w.getD k 0 = y := by simp [hq]
    rw [this]
    exact h y (List.mem_of_getElem? hq)
theorem ok_one {x : Nat} (h : x < 1114112) : okT [x] := fun y hy => by rw [List.mem_singleton.mp hy]; exact h
theorem ok_oneL {l : Tx} (h : okT l) : ∀ c ∈ oneL l, okT c := fun c hc => by
  obtain ⟨x, hx, rfl⟩ := List.mem_map.mp hc
  exact ok_one (h x hx)
theorem lettersOf_len (w : Tx) : (lettersOf w).length ≤ 5 := by
  unfold lettersOf
  rw [List.length_map]
  exact List.length_filter_le _ _
theorem chs_len (l : Tx) : (chs l).length = l.length := by simp [chs]
theorem law_8 (D : Defs1 G) (w text least : Tx) (words : List Tx) (nums : List Int) (W : Wd w text least words) (h : (lettersOf w).filter (fun z => collI w [z] == -1) = (lettersOf w).filter (fun z => decide (w.getD 0 0 < z))) :
    Ex1 G (n + 1) dLaw.scope (s5 w nums text least words) (stAt dLaw.body 8) (.next (s5 w nums text least words)) := by
  have hll := lettersOf_len w
  have h0 : w[0]? = some (w.getD 0 0) := by have := W.hl; rw [List.getElem?_eq_getElem (by omega)]; simp [List.getElem?_eq_getElem (show 0 < w.length by omega)]
  refine Ex1.if_ (c := false) (EvT.cmp (a := .list (sts (oneL ((lettersOf w).filter (fun z => collI w [z] == -1))))) (b := .list (sts (oneL ((lettersOf w).filter (fun z => decide (w.getD 0 0 < z))))))
    (Ev.to (Ev.compr [("word", .val (.str w))] (EvI.list (Ev.nm rfl)) (by rw [chs_len]; omega) rfl ⟨rfl, trivial⟩ rfl (fun _ _ => rfl)
      (CompOk.map (fun z => .str [z]) (fun z => collI w [z] == -1) (fun z => .str [z]) (lettersOf w) fun z ho => ⟨_, AsV.name (.inl rfl), Tests.one (EvT.cmp (a := .int (collI w [z])) (Ev.callF (by decide) rfl (EvL.cons (Ev.nm rfl) (EvL.cons (Ev.nm rfl) EvL.nil (fun _ => rfl)) (fun _ => rfl)) D.coll (by rfl) (fn_coll D.coll w [z]) (fun _ _ => rfl)) (Ev.neg Ev.cInt) CmpV.eqI rfl), fun _ => Ev.nm rfl, ⟨rfl, trivial⟩⟩)) (congrArg PV.list (sts_map (fun z => [z]) _)))
    (Ev.to (Ev.compr [("word", .val (.str w))] (EvI.list (Ev.nm rfl)) (by rw [chs_len]; omega) rfl ⟨rfl, trivial⟩ rfl (fun _ _ => rfl)
      (CompOk.map (fun z => .str [z]) (fun z => decide (w.getD 0 0 < z)) (fun z => .str [z]) (lettersOf w) fun z ho => ⟨_, AsV.name (.inl rfl), Tests.cond (EvT.cmp (Ev.idxS (Ev.nm rfl) (Ev.cInt (i := ((0 : Nat) : Int))) (by rw [getI_nat]; exact h0) (by have := W.hl; omega) (fun _ _ => rfl)) (Ev.nm rfl) CmpV.ltS rfl) (by rw [one_dec]), fun _ => Ev.nm rfl, ⟨rfl, trivial⟩⟩)) (congrArg PV.list (sts_map (fun z => [z]) _)))
    (CmpV.neStrs (ok_oneL fun x hx => okL W.hok x (List.mem_filter.mp hx).1) (ok_oneL fun x hx => okL W.hok x (List.mem_filter.mp hx).1) (by rw [h])) rfl) Ex.nil
theorem law_9 (D : Defs1 G) (w text least : Tx) (words : List Tx) (nums : List Int) (W : Wd w text least words) (h : words.filter (fun one => ellM w one) = [w]) (h2 : endsF w = true) :
    Ex1 G (n + 2) dLaw.scope (s5 w nums text least words) (stAt dLaw.body 9) (.next (s5 w nums text least words)) := by
  have hwl := W.wlen
  have hl := W.hl
  have fe := fn_ends (n := n) D.toDefs D.ends w W.hl W.hok
  rw [h2] at fe
  exact Ex1.if_ (c := false) (EvT.bools (EvA.or (a := false) (b := false) (EvT.cmp (Ev.compr [("word", .val (.str w))] (EvI.list (Ev.nm rfl)) (by rw [sts_len]; omega) rfl ⟨rfl, trivial⟩ rfl (fun _ _ => rfl)
      (CompOk.map (fun w => .str w) (fun one => ellM w one) (fun w => .str w) words fun one ho => ⟨_, AsV.name (.inl rfl), Tests.cond (EvT.cmp (a := .bool (ellM w one)) (b := .bool true) (Ev.callF (by decide) rfl (EvL.cons (Ev.nm rfl) (EvL.cons (Ev.nm rfl) EvL.nil (fun _ => rfl)) (fun _ => rfl)) D.ell (by rfl) (fn_ell (n := n + 1) D.T D.ell w one (by omega) (by have := (W.wok one ho).1; omega)) (fun _ _ => rfl)) Ev.cBool (CmpV.is rfl) rfl) (by rw [bool_is]; cases ellM w one <;> rfl), fun _ => Ev.nm rfl, ⟨rfl, trivial⟩⟩))
    (Ev.mkL (xs := sts [w]) (EvL.cons (Ev.nm rfl) EvL.nil (fun _ => rfl)) (by simp [sts])) (CmpV.neStrs (xs := words.filter (fun one => ellM w one)) (fun c hc => W.okw c (List.mem_filter.mp hc).1) (fun c hc => by rw [List.mem_singleton.mp hc]; exact W.hok) h) rfl)
    (fun _ => EvA.or (a := false) (b := false) (EvT.not (b := true) (EvT.val (Ev.callF (by decide) rfl (EvL.cons (Ev.nm rfl) EvL.nil (fun _ => rfl)) D.ends (by rfl) fe (fun _ _ => rfl)) rfl (fun _ e => by cases e) (fun _ e => by cases e) (fun _ => rfl))) (fun _ => EvA.or0)))) Ex.nil
end
end Mine
namespace Mine

section
variable {G : Gc} {n : Nat} {σ : Loc}
set_option maxHeartbeats 1000000

theorem law_10 (D : Defs1 G) (hn : n ≤ 500) (w text least : Tx) (words : List Tx) (nums : List Int) (W : Wd w text least words) :
    Ex1 G (n + 50) dLaw.scope (s5 w nums text least words) (stAt dLaw.body 10) (.next (("tops", .val (.list (chs (topsOf text (lettersOf w))))) :: s5 w nums text least words)) := by
  have hlt := W.lt
  have ev : (((List.range' 0 15).filter fun k => (match text[k]? with | some x => (oneL (lettersOf w)).contains [x] && checkP (slcN text 1 k) | none => false)).map fun (k : Nat) => PV.str [text.getD k 0]) = chs (topsOf text (lettersOf w)) := by
    unfold topsOf chs; rw [List.map_map]; rfl
  rw [← ev]
  refine Ex1.assignCompr [("text", .val (.str text)), ("letters", .val (.list (chs (lettersOf w))))] (EvI.uptoN (lo := 0) (m := 15) (Ev.callT D.T.nb (by decide +kernel) (by decide) (by decide) (by decide) rfl (EvL.cons Ev.cInt EvL.nil (fun _ => rfl)) CallV.range1 (fun _ _ => rfl) (fun _ _ => rfl)) (by decide) (by omega) (by omega) (by omega))
    (by simp [nats]) rfl ⟨rfl, rfl, trivial⟩ rfl (fun _ _ => rfl) (.inl rfl)
    (CompOk.map (fun (k : Nat) => .int k) (fun k => (match text[k]? with | some x => (oneL (lettersOf w)).contains [x] && checkP (slcN text 1 k) | none => false)) (fun (k : Nat) => .str [text.getD k 0]) (List.range' 0 15) fun k hk' => by
      have hkl : k < text.length := by have := mem_upto hk'; omega
      have hx : text[k]? = some text[k] := List.getElem?_eq_getElem hkl
      have hd : text.getD k 0 = text[k] := by simp [hx]
      have hs := slc_nat text 1 k (by omega) (by omega)
      have hsl : (slcN text 1 k).length ≤ 900 := by unfold slcN; rw [List.length_take, List.length_drop]; omega
      have hidx : ∀ {m : Nat} {sc : Scope} {σ : Loc} {p q r : Pos}, σ.lookup ("text" : Str) = some (.val (.str text)) → σ.lookup ("k" : Str) = some (.val (.int k)) → Ev G m sc σ (.Subscript (.Name "text" p) (.Name "k" q) r) (.str [text[k]]) := fun a b =>
        Ev.idxS (x := text[k]) (Ev.nm a) (Ev.nm b) (by rw [getI_nat]; exact hx) (by omega) (fun _ _ => rfl)
      refine ⟨_, AsV.name (.inl rfl), Tests.cond (EvT.bools (EvA.and (a := (oneL (lettersOf w)).contains [text[k]]) (EvT.cmp (hidx rfl rfl) (Ev.to (Ev.nm rfl) (congrArg PV.list (chs_eq _))) CmpV.inL rfl)
        (fun _ => EvA.and (a := checkP (slcN text 1 k)) (b := true) (EvT.to (EvT.cmp (a := .bool (checkP (slcN text 1 k))) (b := .bool true) (Ev.callF (by decide) rfl (EvL.cons (Ev.to (Ev.slcS (Ev.nm rfl) (EvP.at (i := ((1 : Nat) : Int)) Ev.cInt) (EvP.at (Ev.nm rfl)) (by omega)) (congrArg PV.str hs)) EvL.nil (fun _ => rfl)) D.check (by rfl) (fn_check (n := n + 48) D.T (by omega) (by omega) D.check D.strip D.iter _ hsl) (fun _ _ => rfl)) Ev.cBool (CmpV.is rfl) rfl) (by rw [bool_is]; cases checkP (slcN text 1 k) <;> rfl)) (fun _ => EvA.and0)))) ?_, fun _ => ?_, ⟨rfl, rfl, trivial⟩⟩
      · rw [hx]; simp
      · rw [hd]; exact hidx rfl rfl)
theorem law_11 (D : Defs1 G) (w text least : Tx) (words : List Tx) (nums : List Int) (W : Wd w text least words) (tops : Tx) (h : (lettersOf w).filter (fun z => ellM (dots ++ [z]) w) = tops) :
    Ex1 G (n + 2) dLaw.scope (("tops", .val (.list (chs tops))) :: s5 w nums text least words) (stAt dLaw.body 11) (.next (("tops", .val (.list (chs tops))) :: s5 w nums text least words)) := by
  have hll := lettersOf_len w
  have hl := W.hl
  have ho := ok_oneL (l := (lettersOf w).filter (fun z => ellM (dots ++ [z]) w)) fun x hx => okL W.hok x (List.mem_filter.mp hx).1
  refine Ex1.if_ (c := false) (EvT.cmp (a := .list (sts (oneL ((lettersOf w).filter (fun z => ellM (dots ++ [z]) w))))) (b := .list (sts (oneL tops)))
    (Ev.to (Ev.compr [("word", .val (.str w))] (EvI.list (Ev.nm rfl)) (by rw [chs_len]; omega) rfl ⟨rfl, trivial⟩ rfl (fun _ _ => rfl)
      (CompOk.map (fun z => .str [z]) (fun z => ellM (dots ++ [z]) w) (fun z => .str [z]) (lettersOf w) fun z ho => ⟨_, AsV.name (.inl rfl), Tests.cond (EvT.cmp (a := .bool (ellM (dots ++ [z]) w)) (b := .bool true) (Ev.callF (by decide) rfl (EvL.cons (Ev.bin (Ev.cStr (c := dots) rfl) (Ev.nm rfl) (BinV.addS (by simp))) (EvL.cons (Ev.nm rfl) EvL.nil (fun _ => rfl)) (fun _ => rfl)) D.ell (by rfl) (fn_ell (n := n + 1) D.T D.ell _ w (by simp) (by omega)) (fun _ _ => rfl)) Ev.cBool (CmpV.is rfl) rfl) (by rw [bool_is]; cases ellM (dots ++ [z]) w <;> rfl), fun _ => Ev.nm rfl, ⟨rfl, trivial⟩⟩)) (congrArg PV.list (sts_map (fun z => [z]) _)))
    (Ev.to (Ev.nm rfl) (congrArg PV.list (chs_eq tops))) (CmpV.neStrs ho (by rw [← h]; exact ho) (by rw [h])) rfl) Ex.nil
theorem law_12 (D : Defs1 G) (w text least : Tx) (words : List Tx) (nums : List Int) (W : Wd w text least words) (f : Nat) (h : (lettersOf w).filter (fun z => ellM ([z] ++ dots) w) = [f]) :
    Ex1 G (n + 2) dLaw.scope (s5 w nums text least words) (stAt dLaw.body 12) (.next (("fronts", .val (.list (chs [f]))) :: s5 w nums text least words)) := by
  have hll := lettersOf_len w
  have hl := W.hl
  rw [← h]
  exact Ex1.assignCompr [("word", .val (.str w))] (EvI.list (Ev.nm rfl)) (by rw [chs_len]; omega) rfl ⟨rfl, trivial⟩ rfl (fun _ _ => rfl) (.inl rfl)
      (CompOk.map (fun z => .str [z]) (fun z => ellM ([z] ++ dots) w) (fun z => .str [z]) (lettersOf w) fun z ho => ⟨_, AsV.name (.inl rfl), Tests.cond (EvT.cmp (a := .bool (ellM ([z] ++ dots) w)) (b := .bool true) (Ev.callF (by decide) rfl (EvL.cons (Ev.bin (Ev.nm rfl) (Ev.cStr (c := dots) rfl) (BinV.addS (by simp))) (EvL.cons (Ev.nm rfl) EvL.nil (fun _ => rfl)) (fun _ => rfl)) D.ell (by rfl) (fn_ell (n := n + 1) D.T D.ell _ w (by simp) (by omega)) (fun _ _ => rfl)) Ev.cBool (CmpV.is rfl) rfl) (by rw [bool_is]; cases ellM ([z] ++ dots) w <;> rfl), fun _ => Ev.nm rfl, ⟨rfl, trivial⟩⟩)
abbrev s12 (w : Tx) (nums : List Int) (text least : Tx) (words : List Tx) (f : Nat) : Loc := ("fronts", .val (.list (chs [f]))) :: s5 w nums text least words
theorem ev_front {m : Nat} {sc : Scope} {f : Nat} {p q r : Pos} (h : σ.lookup ("fronts" : Str) = some (.val (.list (chs [f])))) : Ev G m sc σ (.Subscript (.Name "fronts" p) (.Constant (.int 0) 0 q) r) (.str [f]) :=
  Ev.idxL (Ev.nm h) (Ev.cInt (i := ((0 : Nat) : Int))) (by rw [getI_nat]; rfl) (by simp [chs]) (fun _ _ => rfl)
theorem law_13 (D : Defs1 G) (w text least : Tx) (words : List Tx) (nums : List Int) (f : Nat) (h : subIn [40, f, 41] text = true) :
    Ex1 G n dLaw.scope (s12 w nums text least words f) (stAt dLaw.body 13) (.next (s12 w nums text least words f)) :=
  Ex1.if_ (c := false) (EvT.bools (EvA.or (a := false) (b := false) (EvT.cmp (Ev.callB D.T.nb (by decide +kernel) (by decide) (by decide) (by decide) rfl (EvL.cons (Ev.nm rfl) EvL.nil (fun _ => rfl)) (CallV.lenL (by simp [chs])) (fun _ _ => rfl) (fun _ _ => rfl)) Ev.cInt CmpV.neI rfl)
    (fun _ => EvA.or (a := false) (b := false) (EvT.to (EvT.cmp (Ev.bin (Ev.bin (Ev.cStr (c := [40]) rfl) (ev_front rfl) (BinV.addS (by simp))) (Ev.cStr (c := [41]) rfl) (BinV.addS (by simp))) (Ev.nm rfl) CmpV.notInS rfl) (by show (!subIn [40, f, 41] text) = false; rw [h]; rfl)) (fun _ => EvA.or0)))) Ex.nil
theorem law_14 (D : Defs1 G) (hn : n ≤ 500) (w text least : Tx) (words : List Tx) (nums : List Int) (f : Nat) (h : checkP ([40, 34, 41, 34] ++ [f] ++ [92, 41, 41]) = true) :
    Ex1 G (n + 50) dLaw.scope (s12 w nums text least words f) (stAt dLaw.body 14) (.next (s12 w nums text least words f)) := by
  have fc := fn_check (G := G) (n := n + 48) D.T (by omega) (by omega) D.check D.strip D.iter ([40, 34, 41, 34] ++ [f] ++ [92, 41, 41]) (by simp)
  rw [h] at fc
  exact Ex1.if_ (c := false) (EvT.cmp (Ev.callF (by decide) rfl (EvL.cons (Ev.bin (Ev.bin (Ev.cStr (c := [40, 34, 41, 34]) rfl) (ev_front rfl) (BinV.addS (by simp))) (Ev.cStr (c := [92, 41, 41]) rfl) (BinV.addS (by simp))) EvL.nil (fun _ => rfl)) D.check (by rfl) fc (fun _ _ => rfl)) Ev.cBool (CmpV.isNot rfl) rfl) Ex.nil
end
end Mine
namespace Mine

theorem sizesGo_len (text : Tx) (pl : List Nat) : ∀ (ks : List Nat) (pre : List Int) (last : Int), (sizesGo text pl ks pre last).length ≤ pre.length + ks.length + 1 ∧ sizesGo text pl ks pre last ≠ []
  | [], pre, last => ⟨by simp [sizesGo], by simp [sizesGo]⟩
  | k :: r, pre, last => by
    simp only [sizesGo]
    split
    · have := sizesGo_len text pl r (pre ++ [last]) 1
      exact ⟨by have h := this.1; simp only [List.length_append, List.length_cons, List.length_nil] at h ⊢; omega, this.2⟩
    · have := sizesGo_len text pl r pre (last + 1)
      exact ⟨by have h := this.1; simp only [List.length_cons] at h ⊢; omega, this.2⟩
theorem sizesF_len (text : Tx) (h : text.length ≤ 300) : (sizesF text).length ≤ 301 ∧ sizesF text ≠ [] := by
  have := sizesGo_len text (letPl text) (List.range' 1 ((letPl text).length - 1)) [] 1
  have hp : (letPl text).length ≤ text.length := by
    have := List.length_filter_le (fun k => (match text[k]? with | some x => notPar x | none => false)) (List.range' 0 text.length)
    rw [List.length_range'] at this
    exact this
  refine ⟨?_, this.2⟩
  have h1 := this.1
  rw [List.length_range'] at h1
  simp only [List.length_nil] at h1
  show (sizesGo text (letPl text) (List.range' 1 ((letPl text).length - 1)) [] 1).length ≤ 301
  omega
theorem cutGo_B (B : Nat) : ∀ (xs : List Int) (row : Tx) (told : List Int) (pieces : List Tx), row.length ≤ B → (∀ p ∈ pieces, p.length ≤ B) → (∀ p ∈ (cutGo xs row told pieces).2.1, p.length ≤ B) ∧ (cutGo xs row told pieces).2.2.length ≤ B
  | [], row, told, pieces, h1, h2 => ⟨h2, h1⟩
  | x :: xs, row, told, pieces, h1, h2 => by
    have hl1 := slc_le row none (some (-x))
    have hl2 := slc_le row (some (-x)) none
    have hp : ∀ p ∈ pieces ++ [slc row (some (-x)) none], p.length ≤ B := fun p hp => by
      rcases List.mem_append.mp hp with hp | hp
      · exact h2 p hp
      · rw [List.mem_singleton.mp hp]; omega
    simp only [cutGo]
    split
    · exact ⟨hp, by show (slc row none (some (-x))).length ≤ B; omega⟩
    · exact cutGo_B B xs _ _ _ (by omega) hp
theorem cutF_B {B : Nat} {row : Tx} {xs : List Int} (h : row.length ≤ B) : ∀ p ∈ (cutF row xs).2, p.length ≤ B := fun p hp => by
  obtain ⟨q1, q2⟩ := cutGo_B B xs row [] [] h (fun p hp => by cases hp)
  unfold cutF at hp
  rcases List.mem_append.mp (List.mem_filter.mp hp).1 with hp | hp
  · exact q1 p hp
  · rw [List.mem_singleton.mp hp]; exact q2
theorem cutF_len {row : Tx} {xs : List Int} (h : row.length ≤ 1000) : (cutF row xs).2.length ≤ 8 := by
  obtain ⟨_, _, q3⟩ := cutGo_len xs row [] [] h (fun p hp => by cases hp) (by simp) rfl
  unfold cutF
  refine Nat.le_trans (List.length_filter_le _ _) ?_
  simp; omega

section
variable {G : Gc} {n : Nat} {σ : Loc}
set_option maxHeartbeats 1000000

theorem pok_its (l : List Int) (k : Nat) : pok (k + 1) (.list (its l)) = true := by
  simp only [pok, List.all_eq_true]
  intro x hx
  obtain ⟨c, hc, rfl⟩ := List.mem_map.mp hx
  cases k <;> rfl
theorem CmpV.neInts {xs : List Int} : CmpV G n .NotEq (.list (its xs)) (.list (its xs)) (.bool false) := by
  have := CmpV.ne (G := G) (n := n) (a := .list (its xs)) (b := .list (its xs)) (k := 3) (m := 3) (pok_its _ 2) (pok_its _ 2) (by decide) (by decide)
  have e : ∀ l : List Int, peqs (its l) (its l) = true := by
    intro l
    induction l with
    | nil => rfl
    | cons a r ih => simp only [its, List.map_cons, peqs] at *; rw [ih]; simp [peq]
  rw [show (!peq (.list (its xs)) (.list (its xs))) = false by simp only [peq, e]; rfl] at this
  exact this
theorem law_15 (D : Defs1 G) (hn : n ≤ 500) (w text least : Tx) (words : List Tx) (nums : List Int) (f form : Nat) (x5 : Int) (hlt : text.length = 15) (h5 : nums[5]? = some x5) (hnl : nums.length ≤ 1000) (hf : x5.fmod 4 = (form : Int)) (hf4 : form < 4) :
    Ex1 G (n + 50) dLaw.scope (s12 w nums text least words f) (stAt dLaw.body 15) (.next (("due", .val (.list (its (rulF (sizesF text) form).2))) :: ("ruler", .val (.list (its (rulF (sizesF text) form).1))) :: s12 w nums text least words f)) := by
  obtain ⟨q1, q2⟩ := sizesF_len text (by omega)
  exact Ex1.assignT (Ev.callF (by decide) rfl (EvL.cons (Ev.callF (by decide) rfl (EvL.cons (Ev.nm rfl) EvL.nil (fun _ => rfl)) D.sizes (by rfl) (fn_sizes (n := n + 7) D.toDefs (by omega) D.sizes text (by omega)) (fun _ _ => rfl))
      (EvL.cons (Ev.to (Ev.bin (Ev.idxL (Ev.nm rfl) (Ev.cInt (i := ((5 : Nat) : Int))) (by rw [getI_nat, its_get, h5]; rfl) (by rw [its_len]; omega) (fun _ _ => rfl)) Ev.cInt (BinV.modI (by decide))) (congrArg PV.int hf)) EvL.nil (fun _ => rfl)) (fun _ => rfl)) D.ruler (by rfl)
    (fn_ruler (n := n + 49) D.T.nb D.ruler (sizesF text) form q2 (by omega) hf4) (fun _ _ => rfl)) (AsV.tup (AsL.cons (AsV.name (.inl rfl)) (AsL.cons (AsV.name (.inl rfl)) AsL.nil)) rfl (fun _ => rfl)) (fun _ => rfl) (fun _ => rfl)
abbrev s15 (w : Tx) (text : Tx) (due ruler : List Int) : Loc := [("due", .val (.list (its due))), ("ruler", .val (.list (its ruler))), ("text", .val (.str text)), ("letters", .val (.list (chs (lettersOf w)))), ("word", .val (.str w))]
theorem law_16 (D : Defs1 G) (hn : n ≤ 500) (w text : Tx) (due ruler xs : List Int) (e : Bool) (hlt : text.length = 15) (hrl : ruler.length ≤ 1000) (hg : Grp none ruler xs e) (he : e = true ∨ 7 ≤ xs.length) :
    Ex1 G (n + 50) dLaw.scope (s15 w text due ruler) (stAt dLaw.body 16) (.next (("pieces", .val (.list (sts (cutF (rowOf text (lettersOf w)) xs).2))) :: ("told", .val (.list (its (cutF (rowOf text (lettersOf w)) xs).1))) :: s15 w text due ruler)) := by
  have hrow : (rowOf text (lettersOf w)).length ≤ 15 := by unfold rowOf; rw [← hlt]; exact List.length_filter_le _ _
  exact Ex1.assignT (Ev.callF (by decide) rfl (EvL.cons (join_signs (l := rowOf text (lettersOf w)) (Ev.cStr (c := []) rfl) (Ev.compr [("letters", .val (.list (chs (lettersOf w))))] (EvI.str (Ev.nm rfl)) (by simp [Mine.signs]; omega) rfl ⟨rfl, trivial⟩ rfl (fun _ _ => rfl)
      (CompOk.map (fun x => .str [x]) (fun x => (oneL (lettersOf w)).contains [x]) (fun x => .str [x]) text fun x hx => ⟨_, AsV.name (.inl rfl), Tests.one (EvT.cmp (Ev.nm rfl) (Ev.to (Ev.nm rfl) (congrArg PV.list (chs_eq _))) CmpV.inL rfl), fun _ => Ev.nm rfl, ⟨rfl, trivial⟩⟩)) (by omega) (fun _ => rfl) (fun _ => rfl) rfl (fun _ => rfl) (fun _ _ => rfl) (fun _ _ => rfl))
    (EvL.cons (Ev.nm rfl) EvL.nil (fun _ => rfl)) (fun _ => rfl)) D.cut (by rfl) (fn_cut (n := n + 9) D.toDefs (by omega) D.cut _ ruler xs e (by omega) hrl hg he) (fun _ _ => rfl)) (AsV.tup (AsL.cons (AsV.name (.inl rfl)) (AsL.cons (AsV.name (.inr ⟨rfl, rfl⟩)) AsL.nil)) rfl (fun _ => rfl)) (fun _ => rfl) (fun _ => rfl)
abbrev s16 (w : Tx) (due told : List Int) (pieces : List Tx) : Loc := [("pieces", .val (.list (sts pieces))), ("told", .val (.list (its told))), ("due", .val (.list (its due))), ("word", .val (.str w))]
theorem law_17 (D : Defs1 G) (hn : n ≤ 500) (w : Tx) (due : List Int) (pieces : List Tx) (hw : w.length = 5) (hp : ∀ p ∈ pieces, p.length ≤ 15) (hpl : pieces.length ≤ 8) (h : ∀ p ∈ pieces, inOrd p w = some true) :
    Ex1 G (n + 50) dLaw.scope (s16 w due due pieces) (stAt dLaw.body 17) (.next (s16 w due due pieces)) := by
  refine Ex1.if_ (c := false) (EvT.bools (EvA.or (a := false) (b := false) (EvT.cmp (Ev.nm rfl) (Ev.nm rfl) CmpV.neInts rfl) (fun _ => EvA.or (a := false) (b := false) (EvT.to (EvT.cmp (Ev.compr [("word", .val (.str w))] (EvI.list (Ev.nm rfl)) (by rw [sts_len]; omega) rfl ⟨rfl, trivial⟩ rfl (fun _ _ => rfl)
      (CompOk.map (fun w => .str w) (fun _ => false) (fun w => .str w) pieces fun p hpp => ?_)) (Ev.mkL EvL.nil (by simp)) (CmpV.neNil ?_) rfl) ?_) (fun _ => EvA.or0)))) Ex.nil
  · have fi := fn_inord (n := n + 8) D.toDefs (by omega) D.inord p w (by have := hp p hpp; omega) (by omega)
    rw [h p hpp] at fi
    exact ⟨_, AsV.name (.inl rfl), Tests.one (EvT.cmp (Ev.callF (by decide) rfl (EvL.cons (Ev.nm rfl) (EvL.cons (Ev.nm rfl) EvL.nil (fun _ => rfl)) (fun _ => rfl)) D.inord (by rfl) fi (fun _ _ => rfl)) Ev.cBool (CmpV.isNot rfl) rfl), (fun h => by cases h), ⟨rfl, trivial⟩⟩
  · rw [List.filter_eq_nil_iff.mpr (fun _ _ => Bool.false_ne_true)]; rfl
  · rw [List.filter_eq_nil_iff.mpr (fun _ _ => Bool.false_ne_true)]; rfl
theorem law_18 (nb : NoB G) (w : Tx) (due : List Int) (pieces : List Tx) (hp : ∀ p ∈ pieces, p.length ≤ 15) (hpl : pieces.length ≤ 8) :
    Ex1 G n dLaw.scope (s16 w due due pieces) (stAt dLaw.body 18) (.next (("joined", .val (.list (sts (joinedOf pieces)))) :: s16 w due due pieces)) := by
  have ev : ((((List.range' 0 (pieces.length - 1)).filter fun _ => true)).map fun (k : Nat) => PV.str (pieces.getD (k + 1) [] ++ pieces.getD k [])) = sts (joinedOf pieces) := by
    rw [List.filter_eq_self.mpr (fun _ _ => rfl)]; unfold joinedOf sts; rw [List.map_map]; rfl
  rw [← ev]
  refine Ex1.assignCompr [("pieces", .val (.list (sts pieces)))] (EvI.uptoN (lo := 0) (m := pieces.length - 1) (Ev.callT nb (by decide +kernel) (by decide) (by decide) (by decide) rfl (EvL.cons (Ev.bin (Ev.callB nb (by decide +kernel) (by decide) (by decide) (by decide) rfl (EvL.cons (Ev.nm rfl) EvL.nil (fun _ => rfl)) (CallV.lenL (by rw [sts_len]; omega)) (fun _ _ => rfl) (fun _ _ => rfl)) Ev.cInt BinV.subI) EvL.nil (fun _ => rfl)) CallV.range1 (fun _ _ => rfl) (fun _ _ => rfl)) (by rw [sts_len]; omega) (by omega) (by rw [sts_len]; omega) (by rw [sts_len]; omega))
    (by simp [nats]; omega) rfl ⟨rfl, trivial⟩ rfl (fun _ _ => rfl) (.inl rfl)
    (CompOk.map (fun (k : Nat) => .int k) (fun _ => true) (fun (k : Nat) => .str (pieces.getD (k + 1) [] ++ pieces.getD k [])) (List.range' 0 (pieces.length - 1)) fun k hk => by
      have hk' := mem_upto hk
      have h0 : pieces[k]? = some (pieces.getD k []) := by rw [List.getElem?_eq_getElem (by omega)]; simp [List.getElem?_eq_getElem (show k < pieces.length by omega)]
      have h1 : pieces[k + 1]? = some (pieces.getD (k + 1) []) := by rw [List.getElem?_eq_getElem (by omega)]; simp [List.getElem?_eq_getElem (show k + 1 < pieces.length by omega)]
      have l0 := hp _ (List.mem_of_getElem? h0)
      have l1 := hp _ (List.mem_of_getElem? h1)
      exact ⟨_, AsV.name (.inl rfl), .nil, fun _ => Ev.bin (Ev.idxL (Ev.nm rfl) (Ev.bin (Ev.nm rfl) Ev.cInt BinV.addI) (by show getI (sts pieces) ((k + 1 : Nat) : Int) = _; rw [getI_nat, sts, List.getElem?_map, h1]; rfl) (by rw [sts_len]; omega) (fun _ _ => rfl)) (Ev.idxL (Ev.nm rfl) (Ev.nm rfl) (by rw [getI_nat, sts, List.getElem?_map, h0]; rfl) (by rw [sts_len]; omega) (fun _ _ => rfl)) (BinV.addS (by omega)), ⟨rfl, trivial⟩⟩)
theorem law_19 (D : Defs1 G) (hn : n ≤ 500) (w : Tx) (due : List Int) (pieces joined : List Tx) (hw : w.length = 5) (hp : ∀ p ∈ joined, p.length ≤ 30) (hpl : joined.length ≤ 100) (h : ∀ p ∈ joined, inOrd p w = some false) :
    Ex1 G (n + 50) dLaw.scope (("joined", .val (.list (sts joined))) :: s16 w due due pieces) (stAt dLaw.body 19) (.ret (.bool true)) := by
  refine Ex1.ret (Ev.to (Ev.cmp (Ev.compr [("word", .val (.str w))] (EvI.list (Ev.nm rfl)) (by rw [sts_len]; omega) rfl ⟨rfl, trivial⟩ rfl (fun _ _ => rfl)
      (CompOk.map (fun w => .str w) (fun _ => false) (fun w => .str w) joined fun p hpp => ?_)) (Ev.mkL EvL.nil (by simp)) (CmpV.eqNil ?_) rfl) ?_)
  · have fi := fn_inord (n := n + 8) D.toDefs (by omega) D.inord p w (by have := hp p hpp; omega) (by omega)
    rw [h p hpp] at fi
    exact ⟨_, AsV.name (.inl rfl), Tests.one (EvT.cmp (Ev.callF (by decide) rfl (EvL.cons (Ev.nm rfl) (EvL.cons (Ev.nm rfl) EvL.nil (fun _ => rfl)) (fun _ => rfl)) D.inord (by rfl) fi (fun _ _ => rfl)) Ev.cBool (CmpV.isNot rfl) rfl), (fun h => by cases h), ⟨rfl, trivial⟩⟩
  · rw [List.filter_eq_nil_iff.mpr (fun _ _ => Bool.false_ne_true)]; rfl
  · rw [List.filter_eq_nil_iff.mpr (fun _ _ => Bool.false_ne_true)]; rfl
end
end Mine
namespace Mine

def numsOf (scr : List Int) : List Int := scr.take 6 ++ ([7, 2, 5, 0, 3, 1] : List Int).drop (scr.take 6).length
def chrOf (x : Int) : Nat := (97 + x.fmod 26).toNat
def wordOf (nums : List Int) : Tx := (nums.take 5).map chrOf
theorem numsOf_len (scr : List Int) : (numsOf scr).length = 6 := by
  unfold numsOf
  rw [List.length_append, List.length_drop, List.length_take]
  simp only [List.length_cons, List.length_nil]
  omega
theorem chrOf_bd (x : Int) : 97 ≤ 97 + x.fmod 26 ∧ 97 + x.fmod 26 < 123 := by
  have h1 := Int.fmod_nonneg_of_pos x (show (0 : Int) < 26 by decide)
  have h2 := Int.fmod_lt_of_pos x (show (0 : Int) < 26 by decide)
  omega
theorem wordOf_ok (nums : List Int) : ∀ x ∈ wordOf nums, 97 ≤ x ∧ x < 123 := fun x hx => by
  obtain ⟨y, _, rfl⟩ := List.mem_map.mp hx
  have := chrOf_bd y
  unfold chrOf
  omega
theorem grownF_mem : ∀ (k : Nat) (w : Tx), (∀ x ∈ (grownF k w).1, x ∈ w ∨ x = 40 ∨ x = 41) ∧ ∀ x ∈ (grownF k w).2, x ∈ w
  | 0, w => ⟨fun x h => (by cases h), fun x h => (by cases h)⟩
  | k + 1, w => by
    unfold grownF
    cases hl : w.getLast? with
    | none => exact ⟨fun x h => (by cases h), fun x h => (by cases h)⟩
    | some top =>
      have ht : top ∈ w := List.mem_of_getLast? hl
      have sub : ∀ (p : Nat → Bool) x, x ∈ w.dropLast.filter p → x ∈ w := fun p x h => by
        have := (List.mem_filter.mp h).1
        rw [List.dropLast_eq_take] at this
        exact List.mem_of_mem_take this
      have ha := grownF_mem k (w.dropLast.filter fun x => !decide (top < x))
      have hb := grownF_mem k (w.dropLast.filter fun x => decide (top < x))
      refine ⟨fun x h => ?_, fun x h => ?_⟩
      · simp only [List.mem_append, List.mem_singleton] at h
        rcases h with (((h | h) | h) | h) | h
        · exact .inr (.inl h)
        · exact (ha.1 x h).imp (sub _ x) id
        · exact .inl (h ▸ ht)
        · exact (hb.1 x h).imp (sub _ x) id
        · exact .inr (.inr h)
      · simp only [List.mem_append, List.mem_singleton] at h
        rcases h with (h | h) | h
        · exact sub _ x (ha.2 x h)
        · exact sub _ x (hb.2 x h)
        · exact h ▸ ht
theorem wRun_ok (letters : Tx) (L : Nat) (hL : L ≤ 20) : ∀ (f : Nat) (ws : List Tx) (turn : Nat) (r : List Tx), wRun letters f ws turn = some r → wOk L ws → wOk L r ∧ r.length ≤ ws.length + f * L
  | 0, ws, turn, r, h, hw => by cases h
  | f + 1, ws, turn, r, h, hw => by
    have hfl : (f + 1) * L = f * L + L := Nat.succ_mul f L
    unfold wRun at h
    cases ho : ws[turn]? with
    | none =>
      rw [ho] at h
      cases h
      exact ⟨hw, by omega⟩
    | some one =>
      rw [ho] at h
      have hone := hw one (List.mem_of_getElem? ho)
      obtain ⟨q1, q2⟩ := wInner_ok (letters := letters) hone (List.range' 0 (one.length - 1)) ws hw
      rw [List.length_range'] at q2
      have := wRun_ok letters L hL f _ _ r h q1
      exact ⟨this.1, by have := this.2; have := hone.1; omega⟩

section
variable {G : Gc} {n : Nat} {σ : Loc}
set_option maxHeartbeats 1000000
theorem law_0 (nb : NoB G) (scr : List Int) (hl : scr.length ≤ 1000) : Ex1 G n dLaw.scope [("script", .val (.list (its scr)))] (stAt dLaw.body 0) (.next [("numbers", .val (.list (its (numsOf scr)))), ("script", .val (.list (its scr)))]) := by
  have e6 : slc (its scr) none (some ((6 : Nat) : Int)) = its (scr.take 6) := by rw [slcG_to, its_take]
  have hs6 : (scr.take 6).length ≤ 6 := by rw [List.length_take]; omega
  have sl : ∀ {p q r t : Pos}, Ev G n dLaw.scope [("script", .val (.list (its scr)))] (.Subscript (.Name "script" p) (.Slice none (some (.Constant (.int 6) 0 q)) none r) t) (.list (its (scr.take 6))) := fun {p q r t} =>
    Ev.to (Ev.slcL (Ev.nm rfl) EvP.no (EvP.at (i := ((6 : Nat) : Int)) Ev.cInt) (by rw [its_len]; omega)) (congrArg PV.list e6)
  have en : its (scr.take 6) ++ its (([7, 2, 5, 0, 3, 1] : List Int).drop (scr.take 6).length) = its (numsOf scr) := by rw [← its_app]; rfl
  rw [← en]
  refine Ex1.assign (Ev.bin (Ev.callT nb (by decide +kernel) (by decide) (by decide) (by decide) rfl (EvL.cons sl EvL.nil (fun _ => rfl)) (CallV.listL (by rw [its_len]; omega)) (fun _ _ => rfl) (fun _ _ => rfl))
    (Ev.to (Ev.slcL (Ev.mkL (xs := its [7, 2, 5, 0, 3, 1]) (EvL.cons Ev.cInt (EvL.cons Ev.cInt (EvL.cons Ev.cInt (EvL.cons Ev.cInt (EvL.cons Ev.cInt (EvL.cons Ev.cInt EvL.nil (fun _ => rfl)) (fun _ => rfl)) (fun _ => rfl)) (fun _ => rfl)) (fun _ => rfl)) (fun _ => rfl)) (by simp [its])) (EvP.at (i := (((scr.take 6).length : Nat) : Int)) (Ev.to (Ev.callB nb (by decide +kernel) (by decide) (by decide) (by decide) rfl (EvL.cons sl EvL.nil (fun _ => rfl)) (CallV.lenL (by rw [its_len]; omega)) (fun _ _ => rfl) (fun _ _ => rfl)) (by rw [its_len]))) EvP.no (by simp [its]))
      (congrArg PV.list (by rw [slcG_from]; rw [its, its, List.map_drop]))) (BinV.addL (by rw [its_len, its_len, List.length_drop]; simp; omega))) (.inl rfl) (fun _ => rfl)
theorem law_1 (nb : NoB G) (scr nums : List Int) (hl : nums.length = 6) : Ex1 G n dLaw.scope [("numbers", .val (.list (its nums))), ("script", .val (.list (its scr)))] (stAt dLaw.body 1) (.next (("word", .val (.str (wordOf nums))) :: [("numbers", .val (.list (its nums))), ("script", .val (.list (its scr)))])) := by
  have e5 : slc (its nums) none (some ((5 : Nat) : Int)) = its (nums.take 5) := by rw [slcG_to, its_take]
  have h5 : (nums.take 5).length ≤ 5 := by rw [List.length_take]; omega
  refine Ex1.assign (join_signs (l := wordOf nums) (Ev.cStr (c := []) rfl) (Ev.to (Ev.compr [] (EvI.list (Ev.to (Ev.slcL (Ev.nm rfl) EvP.no (EvP.at (i := ((5 : Nat) : Int)) Ev.cInt) (by rw [its_len]; omega)) (congrArg PV.list e5))) (by rw [its_len]; omega) rfl trivial rfl (fun _ _ => rfl)
      (CompOk.map (fun (x : Int) => .int x) (fun _ => true) (fun (x : Int) => .str [chrOf x]) (nums.take 5) fun x hx => ⟨_, AsV.name (.inl rfl), .nil, fun _ => Ev.callB nb (by decide +kernel) (by decide) (by decide) (by decide) rfl (EvL.cons (Ev.bin Ev.cInt (Ev.bin (Ev.nm rfl) Ev.cInt (BinV.modI (by decide))) BinV.addI) EvL.nil (fun _ => rfl)) (CallV.chr (by have := chrOf_bd x; omega) (by have := chrOf_bd x; omega)) (fun _ _ => rfl) (fun _ _ => rfl), trivial⟩))
        (by rw [List.filter_eq_self.mpr (fun _ _ => rfl)]; unfold wordOf; rw [List.map_map]; rfl))
    (by unfold wordOf; rw [List.length_map]; omega) (fun _ => rfl) (fun _ => rfl) rfl (fun _ => rfl) (fun _ _ => rfl) (fun _ _ => rfl)) (.inr rfl) (fun _ => rfl)

/-- the law's def, where the pure law holds -/
theorem fn_law (D : Defs1 G) (hm : dLaw ∈ recsOf G.p) (hn : n ≤ 500) (scr : List Int) (hl : scr.length ≤ 1000) (form : Nat) (x5 : Int) (h5 : (numsOf scr)[5]? = some x5) (hf : x5.fmod 4 = (form : Int)) (hf4 : form < 4)
    (hc : lawCom (wordOf (numsOf scr)) = true) (hfm : lawForm (wordOf (numsOf scr)) form = true) : Fn G (n + 51) "law" [.list (its scr)] (.bool true) := by
  have hnl := numsOf_len scr
  generalize hnum : numsOf scr = nums at *
  have hwl : (wordOf nums).length = 5 := by unfold wordOf; rw [List.length_map, List.length_take]; omega
  have hwo := wordOf_ok nums
  have l1 := law_1 (n := n + 50) D.T.nb scr nums hnl
  generalize wordOf nums = w at *
  have hok : okT w := fun x hx => by have := hwo x hx; omega
  have gl := grownF_len 5 w (by omega)
  have gm := grownF_mem 5 w
  unfold lawCom at hc
  unfold lawForm at hfm
  simp only at hc hfm
  cases hw : wRun (lettersOf w) 25 [(grownF 5 w).2] 0 with
  | none => rw [hw] at hc; cases hc
  | some words =>
    rw [hw] at hc
    simp only [Bool.and_eq_true, beq_iff_eq, List.all_eq_true] at hc
    obtain ⟨⟨⟨⟨⟨⟨⟨⟨c1, c2⟩, c3⟩, c4⟩, c5⟩, c6⟩, c7⟩, c8⟩, c9⟩ := hc
    cases hg : grownF 5 w with
    | mk text least =>
      rw [hg] at gl gm hw c1 c2 c3 c8 c9 hfm
      simp only at gl gm hw c1 c2 c3 c8 c9 hfm
      have okl : okT least := fun x hx => hok x (gm.2 x hx)
      have okt : okT text := fun x hx => by
        rcases gm.1 x hx with h | h | h
        · exact hok x h
        · omega
        · omega
      obtain ⟨w1, w2⟩ := wRun_ok (lettersOf w) 5 (by omega) 25 [least] 0 words hw (fun x hx => by rw [List.mem_singleton.mp hx]; exact ⟨by omega, okl⟩)
      have W : Wd w text least words := ⟨hwl, hok, hg, by omega, by omega, okt, okl, w1, by simp at w2; omega⟩
      cases hx : grpX 7 none (rulF (sizesF text) form).1 with
      | none => rw [hx] at hfm; cases hfm
      | some p =>
        obtain ⟨xs, e⟩ := p
        rw [hx] at hfm
        simp only [Bool.and_eq_true, Bool.or_eq_true, beq_iff_eq, List.all_eq_true, decide_eq_true_eq] at hfm
        obtain ⟨⟨⟨⟨f1, f2⟩, f3⟩, f4⟩, f5⟩ := hfm
        have hgr := grpX_ok _ _ _ _ _ hx
        have hrow : (rowOf text (lettersOf w)).length ≤ 15 := by unfold rowOf; rw [← W.lt]; exact List.length_filter_le _ _
        have hpB := cutF_B (xs := xs) hrow
        have hpL := cutF_len (xs := xs) (row := rowOf text (lettersOf w)) (by omega)
        obtain ⟨s1, s2⟩ := sizesF_len text (by have := W.lt; omega)
        have hrl : (rulF (sizesF text) form).1.length ≤ 1000 := by
          unfold rulF
          match form, hf4 with
          | 0, _ => simp; omega
          | 1, _ => simp; omega
          | 2, _ => simp; omega
          | 3, _ => simp; omega
        have hin : ∀ p ∈ (cutF (rowOf text (lettersOf w)) xs).2, inOrd p w = some true := fun p hp => by
          have := f4 p hp
          revert this
          cases inOrd p w with
          | none => intro h; cases h
          | some b => cases b <;> intro h <;> first | rfl | cases h
        have hjn : ∀ p ∈ joinedOf (cutF (rowOf text (lettersOf w)) xs).2, inOrd p w = some false := fun p hp => by
          have := f5 p hp
          revert this
          cases inOrd p w with
          | none => intro h; cases h
          | some b => cases b <;> intro h <;> first | rfl | cases h
        obtain ⟨f, hf1, hf2, hf3⟩ : ∃ f, (lettersOf w).filter (fun z => ellM ([z] ++ dots) w) = [f] ∧ subIn [40, f, 41] text = true ∧ checkP ([40, 34, 41, 34] ++ [f] ++ [92, 41, 41]) = true := by
          cases hq : (lettersOf w).filter (fun z => ellM ([z] ++ dots) w) with
          | nil => rw [hq] at c9; cases c9
          | cons a r => cases r with
            | nil => rw [hq] at c9; exact ⟨a, rfl, Bool.and_eq_true_iff.mp c9⟩
            | cons => rw [hq] at c9; cases c9
        have l0 := law_0 (n := n + 50) D.T.nb scr hl
        rw [hnum] at l0
        have l16 := law_16 (n := n) D hn w text (rulF (sizesF text) form).2 (rulF (sizesF text) form).1 xs e W.lt hrl hgr f1
        rw [f3] at l16
        have hjl : (joinedOf (cutF (rowOf text (lettersOf w)) xs).2).length ≤ 100 := by unfold joinedOf; rw [List.length_map, List.length_range']; omega
        have hjb : ∀ p ∈ joinedOf (cutF (rowOf text (lettersOf w)) xs).2, p.length ≤ 30 := fun p hp => by
          obtain ⟨k, hk, rfl⟩ := List.mem_map.mp hp
          have hk' := mem_upto hk
          have g : ∀ j, j < (cutF (rowOf text (lettersOf w)) xs).2.length → ((cutF (rowOf text (lettersOf w)) xs).2.getD j []).length ≤ 15 := fun j hj => by
            have h0 : (cutF (rowOf text (lettersOf w)) xs).2[j]? = some ((cutF (rowOf text (lettersOf w)) xs).2.getD j []) := by rw [List.getElem?_eq_getElem hj]; simp [List.getElem?_eq_getElem hj]
            exact hpB _ (List.mem_of_getElem? h0)
          have g1 := g k (by omega)
          have g2 := g (k + 1) (by omega)
          rw [List.length_append]; omega
        refine Fn.intro (d := dLaw) (ns := ["script"]) hm (by rfl) ?_ (by decide) (by decide +kernel) (by decide +kernel) rfl rfl rfl ?_
        · intro pm code doc vs hv
          (apply len1 hv; exact fun _ => rfl)
        · refine Ex.cons l0 (Ex.cons l1 (Ex.weak (τ := [("word", .val (.str w)), ("numbers", .val (.list (its nums)))]) ?_ (subL.out ⟨rfl, rfl, trivial⟩)))
          refine Ex.cons (law_2 D w hwl nums) (Ex.cons (law_3 D w text least hwl hg nums) (Ex.cons (law_4 D w text least words nums W.ll okl hw) (Ex.weak (τ := s5 w nums text least words) ?_ (subL.out ⟨rfl, rfl, rfl, rfl, rfl, rfl, trivial⟩))))
          refine Ex.cons (law_5 D hn w text least words nums W c1 c2) (Ex.cons (law_6 (n := n + 49) D w text least words nums W c3) (Ex.cons (law_7 (n := n + 49) D w text least words nums W c4) (Ex.cons (law_8 (n := n + 49) D w text least words nums W c5) (Ex.cons (law_9 (n := n + 48) D w text least words nums W c6 c7) ?_))))
          refine Ex.cons (law_10 D hn w text least words nums W) (Ex.cons (law_11 (n := n + 48) D w text least words nums W _ c8) (Ex.weak (τ := s5 w nums text least words) ?_ (subL.out ⟨rfl, rfl, rfl, rfl, rfl, rfl, trivial⟩)))
          refine Ex.cons (law_12 (n := n + 48) D w text least words nums W f hf1) (Ex.cons (law_13 (n := n + 50) D w text least words nums f hf2) (Ex.cons (law_14 D hn w text least words nums f hf3) (Ex.cons (law_15 D hn w text least words nums f form x5 W.lt h5 (by omega) hf hf4) (Ex.weak (τ := s15 w text (rulF (sizesF text) form).2 (rulF (sizesF text) form).1) ?_ (subL.out ⟨rfl, rfl, rfl, rfl, rfl, trivial⟩)))))
          refine Ex.cons l16 (Ex.weak (τ := s16 w (rulF (sizesF text) form).2 (rulF (sizesF text) form).2 (cutF (rowOf text (lettersOf w)) xs).2) ?_ (subL.out ⟨rfl, rfl, rfl, rfl, trivial⟩))
          exact Ex.cons (law_17 D hn w _ _ hwl hpB hpL hin) (Ex.cons (law_18 (n := n + 50) D.T.nb w _ _ hpB hpL) (Ex.stop (law_19 D hn w _ _ _ hwl hjb hjl hjn) rfl))
end
end Mine
namespace Mine

/-- letters renamed, their order kept -/
structure Ren (φ : Nat → Nat) : Prop where
  lt : ∀ a b, a < b → φ a < φ b
  fix : ∀ n, n < 97 → φ n = n

section
variable {φ : Nat → Nat} (R : Ren φ)
include R
theorem Ren.iff (a b : Nat) : φ a < φ b ↔ a < b := by
  constructor
  · intro h
    rcases Nat.lt_trichotomy a b with q | q | q
    · exact q
    · subst q; omega
    · have := R.lt _ _ q; omega
  · exact R.lt a b
theorem Ren.eq (a b : Nat) : φ a = φ b ↔ a = b := by
  constructor
  · intro h
    rcases Nat.lt_trichotomy a b with q | q | q
    · have := R.lt _ _ q; omega
    · exact q
    · have := R.lt _ _ q; omega
  · rintro rfl; rfl
theorem Ren.beq (a b : Nat) : (φ a == φ b) = (a == b) := by rw [Bool.eq_iff_iff, beq_iff_eq, beq_iff_eq, R.eq]
theorem Ren.dec (a b : Nat) : decide (φ a < φ b) = decide (a < b) := by rw [Bool.eq_iff_iff, decide_eq_true_eq, decide_eq_true_eq, R.iff]
theorem Ren.consts (l : Tx) (h : ∀ x ∈ l, x < 97) : l.map φ = l := by
  rw [List.map_congr_left (fun x hx => R.fix x (h x hx)), List.map_id']
theorem prefixB_map : ∀ (a b : Tx), prefixB (a.map φ) (b.map φ) = prefixB a b
  | [], b => by simp [prefixB]
  | x :: a, [] => by simp [prefixB]
  | x :: a, y :: b => by simp only [List.map_cons, prefixB, R.beq, prefixB_map a b]
theorem subIn_map (a : Tx) : ∀ b : Tx, subIn (a.map φ) (b.map φ) = subIn a b
  | [] => by simpa [subIn] using prefixB_map R a []
  | x :: b => by
    have h1 := prefixB_map R a (x :: b)
    have h2 := subIn_map a b
    simp only [List.map_cons, subIn] at *
    rw [h1, h2]
theorem suffixB_map (a b : Tx) : suffixB (a.map φ) (b.map φ) = suffixB a b := by
  unfold suffixB
  rw [List.length_map, List.length_map, ← List.map_drop, prefixB_map R]
theorem splitGo_map (sp : Tx) : ∀ (x : Tx) (k : Nat) (cur : Tx), splitGo (sp.map φ) k (cur.map φ) (x.map φ) = (splitGo sp k cur x).map (List.map φ)
  | [], k, cur => by cases k <;> simp [splitGo]
  | y :: t, 0, cur => by
    have h1 := prefixB_map R sp (y :: t)
    have h2 := splitGo_map sp t (sp.length - 1) []
    have h3 := splitGo_map sp t 0 (cur ++ [y])
    simp only [List.map_cons, splitGo] at *
    rw [h1]
    split
    · simp only [List.map_cons, List.length_map, List.map_nil] at *; rw [h2]
    · simp only [List.map_append, List.map_cons, List.map_nil] at h3; rw [h3]
  | y :: t, k + 1, cur => by
    have h2 := splitGo_map sp t k cur
    simp only [List.map_cons, splitGo]
    exact h2
theorem findGo_map (sub : Tx) (hi : Nat) : ∀ (x : Tx) (i : Nat), findGo (sub.map φ) hi i (x.map φ) = findGo sub hi i x
  | [], i => by
    have h1 := prefixB_map R sub []
    simp only [List.map_nil, findGo, List.length_map] at *
    rw [h1]
  | y :: t, i => by
    have h1 := prefixB_map R sub (y :: t)
    have h2 := findGo_map sub hi t (i + 1)
    simp only [List.map_cons, findGo, List.length_map] at *
    rw [h1, h2]
theorem ellMid_map (got : Tx) (hi : Nat) : ∀ (ws : List Tx) (lo : Nat), ellMid (got.map φ) hi (ws.map (List.map φ)) lo = ellMid got hi ws lo
  | [], lo => rfl
  | w :: ws, lo => by
    have h1 := findGo_map R w hi (got.drop lo) lo
    rw [List.map_cons]
    cases h : findGo w hi lo (got.drop lo) with
    | none =>
      rw [ellMid_none h]
      rw [h, List.map_drop] at h1
      rw [ellMid_none h1]
    | some k =>
      rw [ellMid_some h]
      rw [h, List.map_drop] at h1
      rw [ellMid_some h1, List.length_map, ellMid_map got hi ws]
theorem ellC_map (got : Tx) (lo hi : Nat) (ws : List Tx) : ellC (got.map φ) lo hi (ws.map (List.map φ)) = ellC got lo hi ws := by
  unfold ellC
  rw [ellMid_map R]
theorem lastD_map (ws : List Tx) : (ws.map (List.map φ)).getLastD [] = (ws.getLastD []).map φ := by
  cases ws with
  | nil => rfl
  | cons a r =>
    show ((a :: r).map (List.map φ)).getLast _ = ((a :: r).getLast _).map φ
    rw [List.getLast_map]
theorem isEmpty_map (c : Tx) : (c.map φ).isEmpty = c.isEmpty := by cases c <;> rfl
theorem ellB_map (got : Tx) (lo : Nat) (ws : List Tx) : ellB (got.map φ) lo (ws.map (List.map φ)) = ellB got lo ws := by
  unfold ellB
  rw [lastD_map R, isEmpty_map R, suffixB_map R, List.length_map, List.length_map, ← List.map_dropLast, ellC_map R, ellC_map R]
theorem dots_map : dots.map φ = dots := R.consts dots (by decide)
theorem ellA_map (got : Tx) (ws : List Tx) : ellA (got.map φ) (ws.map (List.map φ)) = ellA got ws := by
  cases ws with
  | nil => 
    have := ellB_map R got 0 []
    simpa [ellA] using this
  | cons w r =>
    rw [List.map_cons, ellA_cons, ellA_cons, isEmpty_map R, prefixB_map R, List.length_map, ellB_map R]
    have := ellB_map R got 0 (w :: r)
    rw [List.map_cons] at this
    rw [this]
theorem ellM_map (want got : Tx) : ellM (want.map φ) (got.map φ) = ellM want got := by
  unfold ellM splitE
  have h1 := subIn_map R dots want
  have h2 := splitGo_map R dots want 0 []
  rw [dots_map R] at h1 h2
  rw [h1, show ([] : Tx) = ([] : Tx).map φ from rfl, h2, ellA_map R]
  have : (want.map φ == got.map φ) = (want == got) := by
    rw [Bool.eq_iff_iff, beq_iff_eq, beq_iff_eq]
    exact List.map_inj_right (fun a b h => (R.eq a b).mp h)
  rw [this]
  rfl
theorem Ren.const (x n : Nat) (h : n < 97) : (φ x == n) = (x == n) := by
  have := R.beq x n
  rw [R.fix n h] at this
  exact this
theorem escGo_map : ∀ (c : Tx) (i : Nat) (b : Bool), escGo i b (c.map φ) = (escGo i b c).map fun p => (p.1, p.2.map φ)
  | [], i, b => by cases b <;> simp [escGo, R.fix 92 (by decide)]
  | x :: t, i, true => by
    have := escGo_map t (i + 1) false
    simp only [List.map_cons, escGo, List.map_nil, R.fix 92 (by decide)] at *
    rw [this]
  | x :: t, i, false => by
    have h1 := escGo_map t (i + 1) false
    have h2 := escGo_map t (i + 1) true
    simp only [List.map_cons, escGo, R.const x 92 (by decide)] at *
    split
    · exact h2
    · rw [h1]; simp
theorem one_eq_map (ch : Tx) (n : Nat) (h : n < 97) : (ch.map φ == [n]) = (ch == [n]) := by
  rw [Bool.eq_iff_iff, beq_iff_eq, beq_iff_eq]
  have hn : [n] = [n].map φ := (R.consts [n] (by intro x hx; rw [List.mem_singleton.mp hx]; exact h)).symm
  constructor
  · intro e
    rw [hn] at e
    exact (List.map_inj_right (fun a b h => (R.eq a b).mp h)).mp e
  · intro e
    rw [e, ← hn]
theorem checkRun_map : ∀ (l : List (Nat × Tx)) (o : Int), checkRun (l.map fun p => (p.1, p.2.map φ)) o = checkRun l o
  | [], o => rfl
  | (p, ch) :: r, o => by
    simp only [List.map_cons, checkRun, one_eq_map R ch 40 (by decide), one_eq_map R ch 41 (by decide), checkRun_map r]
theorem slcN_map (l : Tx) (a b : Nat) : slcN (l.map φ) a b = (slcN l a b).map φ := by
  unfold slcN; rw [List.map_take, List.map_drop]
theorem stripGo_map (addr : Tx) : ∀ (l : List (Nat × Tx)) (st : Nat) (op : Option Nat) (res : List Tx), stripGo (addr.map φ) (l.map fun p => (p.1, p.2.map φ)) st op (res.map (List.map φ)) = ((stripGo addr l st op res).1, (stripGo addr l st op res).2.map (List.map φ))
  | [], st, op, res => rfl
  | (p, ch) :: r, st, op, res => by
    simp only [List.map_cons, stripGo, one_eq_map R ch 34 (by decide)]
    split
    · cases op with
      | none => exact stripGo_map addr r st (some p) res
      | some o =>
        simp only [slcN_map R]
        split
        · have := stripGo_map addr r (p + 1) none (res ++ [slcN addr st o])
          rw [List.map_append] at this
          exact this
        · exact stripGo_map addr r (p + 1) none res
    · exact stripGo_map addr r st op res
theorem joinT_map (l : List Tx) : joinT [] (l.map (List.map φ)) = (joinT [] l).map φ := by
  rw [joinT_nil, joinT_nil, List.map_flatten]
theorem stripQ_map (addr : Tx) : stripQ (addr.map φ) = (stripQ addr).map φ := by
  have h34 : [34].map φ = [34] := R.consts [34] (by decide)
  have h1 := subIn_map R [34] addr
  rw [h34] at h1
  unfold stripQ
  rw [h1, escGo_map R]
  have h2 := stripGo_map R addr (escGo 0 false addr) 0 none []
  rw [List.map_nil] at h2
  rw [h2]
  split
  · unfold stripF
    simp only [List.length_map]
    split
    · rw [← joinT_map R, List.map_append, List.map_cons, List.map_nil, List.map_drop]
    · rw [joinT_map R]
  · rfl
theorem checkP_map (addr : Tx) : checkP (addr.map φ) = checkP addr := by
  unfold checkP
  rw [stripQ_map R, escGo_map R, checkRun_map R]
theorem lt_map : ∀ (a b : Tx), (a.map φ < b.map φ) ↔ a < b
  | a, [] => by simp
  | [], b :: bs => by simp
  | a :: as, b :: bs => by
    rw [List.map_cons, List.map_cons, List.cons_lt_cons_iff, List.cons_lt_cons_iff, R.iff, R.eq, lt_map as bs]
theorem collI_map (a b : Tx) : collI (a.map φ) (b.map φ) = collI a b := by
  unfold collI
  have h1 : decide (b.map φ < a.map φ) = decide (b < a) := by rw [Bool.eq_iff_iff, decide_eq_true_eq, decide_eq_true_eq, lt_map R]
  have h2 : decide (a.map φ < b.map φ) = decide (a < b) := by rw [Bool.eq_iff_iff, decide_eq_true_eq, decide_eq_true_eq, lt_map R]
  rw [h1, h2]
theorem filter_map (p q : Nat → Bool) (l : Tx) (h : ∀ x, p (φ x) = q x) : (l.map φ).filter p = (l.filter q).map φ := by
  rw [List.filter_map]
  congr 2
  funext x
  exact h x
theorem grownF_map : ∀ (k : Nat) (w : Tx), grownF k (w.map φ) = ((grownF k w).1.map φ, (grownF k w).2.map φ)
  | 0, w => rfl
  | k + 1, w => by
    have h40 : [40].map φ = [40] := R.consts [40] (by decide)
    have h41 : [41].map φ = [41] := R.consts [41] (by decide)
    unfold grownF
    rw [List.getLast?_map]
    cases w.getLast? with
    | none => rfl
    | some top =>
      simp only [Option.map_some, ← List.map_dropLast]
      rw [filter_map R (fun x => !decide (φ top < x)) (fun x => !decide (top < x)) _ (fun x => by rw [R.dec]), filter_map R (fun x => decide (φ top < x)) (fun x => decide (top < x)) _ (fun x => R.dec top x), grownF_map k, grownF_map k]
      simp [R.fix 40 (by decide), R.fix 41 (by decide)]
theorem letF_map (one : Tx) (p : Nat) (letters : Tx) : letF (one.map φ) p (letters.map φ) = letF one p letters := by
  unfold letF
  rw [List.getElem?_map, List.getElem?_map]
  cases one[p]? with
  | none => rfl
  | some a =>
    cases one[p + 1]? with
    | none => rfl
    | some b =>
      simp only [Option.map_some]
      rw [List.any_map]
      congr 1
      funext z
      show letOne (one.map φ) p (φ a) (φ b) (φ z) = letOne one p a b z
      unfold letOne
      rw [R.dec, R.dec]
      have h := ellM_map R (one.take (p + 2) ++ dots ++ [z] ++ dots) one
      simp only [List.map_append, dots_map R, List.map_cons, List.map_nil, List.map_take] at h
      rw [h]
theorem filterT_map (p q : Tx → Bool) (l : List Tx) (h : ∀ x, p (x.map φ) = q x) : (l.map (List.map φ)).filter p = (l.filter q).map (List.map φ) := by
  rw [List.filter_map]
  congr 2
  funext x
  exact h x
theorem wPlace_map (letters one : Tx) (p : Nat) (ws : List Tx) : wPlace (letters.map φ) (one.map φ) p (ws.map (List.map φ)) = (wPlace letters one p ws).map (List.map φ) := by
  unfold wPlace
  rw [List.getElem?_map, List.getElem?_map]
  cases one[p]? with
  | none => rfl
  | some a =>
    cases one[p + 1]? with
    | none => rfl
    | some b =>
      simp only [Option.map_some]
      have c1 := collI_map R [a] [b]
      have c2 := collI_map R [b] [a]
      simp only [List.map_cons, List.map_nil] at c1 c2
      rw [c1, c2, letF_map R]
      have e : (one.map φ).take p ++ [φ b] ++ [φ a] ++ (one.map φ).drop (p + 2) = (one.take p ++ [b] ++ [a] ++ one.drop (p + 2)).map φ := by simp [List.map_take, List.map_drop]
      rw [e, filterT_map R (fun old => ellM ((one.take p ++ [b] ++ [a] ++ one.drop (p + 2)).map φ) old) (fun old => ellM (one.take p ++ [b] ++ [a] ++ one.drop (p + 2)) old) ws (fun x => ellM_map R _ x), List.isEmpty_map]
      split
      · split
        · generalize one.take p ++ [b] ++ [a] ++ one.drop (p + 2) = nw
          simp
        · rfl
      · rfl
theorem wInner_map (letters one : Tx) : ∀ (ps : List Nat) (ws : List Tx), wInner (letters.map φ) (one.map φ) ps (ws.map (List.map φ)) = (wInner letters one ps ws).map (List.map φ)
  | [], ws => rfl
  | p :: r, ws => by
    unfold wInner
    rw [wPlace_map R, wInner_map letters one r]
theorem wRun_map (letters : Tx) : ∀ (f : Nat) (ws : List Tx) (turn : Nat), wRun (letters.map φ) f (ws.map (List.map φ)) turn = (wRun letters f ws turn).map (List.map (List.map φ))
  | 0, ws, turn => rfl
  | f + 1, ws, turn => by
    unfold wRun
    rw [List.getElem?_map]
    cases ws[turn]? with
    | none => rfl
    | some one =>
      simp only [Option.map_some, List.length_map]
      rw [wInner_map R, wRun_map letters f]
end
end Mine
namespace Mine

section
variable {φ : Nat → Nat} (R : Ren φ)
include R
theorem Ren.cst2 (l : Tx) (h : ∀ x ∈ l, x < 97) : l.map φ = l := R.consts l h
theorem notPar_map (x : Nat) : notPar (φ x) = notPar x := by
  unfold notPar
  have h := subIn_map R [x] [40, 41]
  rw [R.consts [40, 41] (by decide)] at h
  rw [← h]; rfl
theorem placesOf_map (text : Tx) (c lo : Nat) (hc : c < 97) : placesOf (text.map φ) c lo = placesOf text c lo := by
  unfold placesOf
  rw [List.length_map]
  congr 1
  funext k
  rw [List.getElem?_map]
  cases text[k]? with
  | none => rfl
  | some x => exact R.const x c hc
theorem prodEnd_map (text : Tx) (b : Nat) : ∀ (l : List Nat) (p : Nat), prodEnd (text.map φ) b l p = prodEnd text b l p
  | [], p => rfl
  | e :: r, p => by
    unfold prodEnd
    rw [slcN_map R, slcN_map R, checkP_map R, filter_map R notPar notPar _ (notPar_map R), List.length_map, prodEnd_map text b r]
theorem prodGo_map (text : Tx) : ∀ (l : List Nat) (p : Nat), prodGo (text.map φ) l p = prodGo text l p
  | [], p => rfl
  | b :: r, p => by
    unfold prodGo
    rw [placesOf_map R _ _ _ (by decide), prodEnd_map R, prodGo_map text r]
theorem prodF_map (text : Tx) : prodF (text.map φ) = prodF text := by
  unfold prodF
  rw [placesOf_map R _ _ _ (by decide), prodGo_map R]
theorem letPl_map (text : Tx) : letPl (text.map φ) = letPl text := by
  unfold letPl
  rw [List.length_map]
  congr 1
  funext k
  rw [List.getElem?_map]
  cases text[k]? with
  | none => rfl
  | some x => exact notPar_map R x
theorem gapOf_map (text : Tx) (pl : List Nat) (k : Nat) : gapOf (text.map φ) pl k = (gapOf text pl k).map φ := by
  unfold gapOf
  split
  · rw [slcN_map R]
  · rfl
theorem flip_map (l : Tx) : (l.map φ).map flipP = (l.map flipP).map φ := by
  rw [List.map_map, List.map_map]
  apply List.map_congr_left
  intro x _
  show flipP (φ x) = φ (flipP x)
  unfold flipP
  rw [R.const x 40 (by decide)]
  split
  · exact (R.fix 41 (by decide)).symm
  · exact (R.fix 40 (by decide)).symm
theorem sizesGo_map (text : Tx) (pl : List Nat) : ∀ (l : List Nat) (pre : List Int) (last : Int), sizesGo (text.map φ) pl l pre last = sizesGo text pl l pre last
  | [], pre, last => rfl
  | k :: r, pre, last => by
    unfold sizesGo
    have e : gapOf (text.map φ) pl k ++ [92, 41] ++ (gapOf (text.map φ) pl k).map flipP = (gapOf text pl k ++ [92, 41] ++ (gapOf text pl k).map flipP).map φ := by
      rw [gapOf_map R, flip_map R, List.map_append, List.map_append, R.consts [92, 41] (by decide)]
    rw [e, checkP_map R, sizesGo_map text pl r, sizesGo_map text pl r]
theorem sizesF_map (text : Tx) : sizesF (text.map φ) = sizesF text := by
  unfold sizesF
  rw [letPl_map R, sizesGo_map R]
theorem slcT_map (l : Tx) (a b : Option Int) : slc (l.map φ) a b = (slc l a b).map φ := by
  unfold slc
  rw [List.length_map, List.map_take, List.map_drop]
theorem cutGo_map : ∀ (xs : List Int) (row : Tx) (told : List Int) (pieces : List Tx),
    cutGo xs (row.map φ) told (pieces.map (List.map φ)) = ((cutGo xs row told pieces).1, (cutGo xs row told pieces).2.1.map (List.map φ), (cutGo xs row told pieces).2.2.map φ)
  | [], row, told, pieces => rfl
  | x :: r, row, told, pieces => by
    unfold cutGo
    rw [slcT_map R, slcT_map R]
    have e : pieces.map (List.map φ) ++ [(slc row (some (-x)) none).map φ] = (pieces ++ [slc row (some (-x)) none]).map (List.map φ) := by
      rw [List.map_append, List.map_cons, List.map_nil]
    rw [e, cutGo_map r]
    split <;> rfl
theorem cutF_map (row : Tx) (xs : List Int) : cutF (row.map φ) xs = ((cutF row xs).1, (cutF row xs).2.map (List.map φ)) := by
  unfold cutF
  have h := cutGo_map R xs row [] []
  rw [List.map_nil] at h
  rw [h]
  simp only
  have e : (cutGo xs row [] []).2.1.map (List.map φ) ++ [(cutGo xs row [] []).2.2.map φ] = ((cutGo xs row [] []).2.1 ++ [(cutGo xs row [] []).2.2]).map (List.map φ) := by
    rw [List.map_append, List.map_cons, List.map_nil]
  rw [e, filterT_map R (fun p => !p.isEmpty) (fun p => !p.isEmpty) _ (fun x => by rw [isEmpty_map R])]
theorem oneL_map (l : Tx) : oneL (l.map φ) = (oneL l).map (List.map φ) := by
  unfold oneL; rw [List.map_map, List.map_map]; rfl
theorem markP_map (piece : Tx) (x : Nat) : markP (piece.map φ) (φ x) = (markP piece x).map φ := by
  unfold markP
  have h := subIn_map R [x] piece
  rw [List.map_cons, List.map_nil] at h
  rw [h]
  split
  · rfl
  · rw [List.map_cons, List.map_cons, List.map_cons, List.map_nil, R.fix 34 (by decide)]
theorem joinSep_map (sep : Tx) (l : List Tx) : joinT (sep.map φ) (l.map (List.map φ)) = (joinT sep l).map φ := by
  cases l with
  | nil => rfl
  | cons a r =>
    show (r.map (List.map φ)).foldl (fun acc p => acc ++ sep.map φ ++ p) (a.map φ) = (r.foldl (fun acc p => acc ++ sep ++ p) a).map φ
    induction r generalizing a with
    | nil => rfl
    | cons b r ih =>
      rw [List.map_cons, List.foldl_cons, List.foldl_cons, ← ih, List.map_append, List.map_append]
theorem eqT_map (a b : Tx) : (a.map φ == b.map φ) = (a == b) := by
  rw [Bool.eq_iff_iff, beq_iff_eq, beq_iff_eq]
  exact List.map_inj_right (fun a b h => (R.eq a b).mp h)
theorem inOrd_map (piece word : Tx) : inOrd (piece.map φ) (word.map φ) = inOrd piece word := by
  unfold inOrd
  have hd := dots_map R
  have e1 : dots ++ joinT dots (oneL (piece.map φ)) ++ dots = (dots ++ joinT dots (oneL piece) ++ dots).map φ := by
    rw [List.map_append, List.map_append, ← joinSep_map R, hd, oneL_map R]
  have e2 : [34, 92, 34, 34] ++ joinT [] ((word.map φ).map (markP (piece.map φ))) ++ [34] = ([34, 92, 34, 34] ++ joinT [] (word.map (markP piece)) ++ [34]).map φ := by
    rw [List.map_append, List.map_append, ← joinSep_map R, R.consts [34, 92, 34, 34] (by decide), R.consts [34] (by decide), List.map_map, List.map_map]
    congr 3
    apply List.map_congr_left
    intro x _
    exact markP_map R piece x
  have e3 : piece.map φ ++ [34] = (piece ++ [34]).map φ := by rw [List.map_append, R.consts [34] (by decide)]
  rw [e1, e2, e3, ellM_map R, stripQ_map R, eqT_map R]
theorem endCut_map (word : Tx) (c : Nat) : endCut (word.map φ) c = endCut word c := by
  unfold endCut
  have hd := dots_map R
  have e1 : (word.map φ).take c ++ dots ++ (word.map φ).drop 2 = (word.take c ++ dots ++ word.drop 2).map φ := by
    rw [List.map_append, List.map_append, hd, List.map_take, List.map_drop]
  have e2 : dots ++ (word.take c ++ dots ++ word.drop 2).map φ ++ dots = (dots ++ (word.take c ++ dots ++ word.drop 2) ++ dots).map φ := by
    simp only [List.map_append, hd]
  rw [e1, e2, ellM_map R, ellM_map R]
theorem endZ_map (word : Tx) (a b z : Nat) : endZ (word.map φ) (φ a) (φ b) (φ z) = endZ word a b z := by
  unfold endZ
  have hd := dots_map R
  have e1 : [φ a] ++ dots ++ [φ z] ++ dots ++ [φ b] = ([a] ++ dots ++ [z] ++ dots ++ [b]).map φ := by
    simp only [List.map_append, hd, List.map_cons, List.map_nil]
  have e2 := subIn_map R [z] (slcN word 1 4)
  rw [List.map_cons, List.map_nil, ← slcN_map R] at e2
  rw [e1, ellM_map R, e2]
theorem getD_map (word : Tx) (k : Nat) (h : k < word.length) : (word.map φ).getD k 0 = φ (word.getD k 0) := by
  rw [List.getD_eq_getElem?_getD, List.getD_eq_getElem?_getD, List.getElem?_map, List.getElem?_eq_getElem h]; rfl
theorem endsF_map (word : Tx) (hl : word.length = 5) : endsF (word.map φ) = endsF word := by
  unfold endsF
  rw [endCut_map R, endCut_map R, getD_map R _ _ (by omega), getD_map R _ _ (by omega), List.any_map]
  have e : (endZ (word.map φ) (φ (word.getD 0 0)) (φ (word.getD 4 0)) ∘ φ) = endZ word (word.getD 0 0) (word.getD 4 0) := by
    funext z; exact endZ_map R _ _ _ _
  rw [e]
  have e2 : [(word.map φ).take 4, (word.map φ).drop 1] = [word.take 4, word.drop 1].map (List.map φ) := by
    rw [List.map_cons, List.map_cons, List.map_nil, List.map_take, List.map_drop]
  rw [e2, filterT_map R (fun part => ellM part (word.map φ) || ellM (word.map φ) part) (fun part => ellM part word || ellM word part) _ (fun x => by rw [ellM_map R, ellM_map R]), List.isEmpty_map]
theorem letGo_map (word : Tx) (k : Nat) : letGo (word.map φ) k = (letGo word k).map φ := by
  unfold letGo
  rw [List.getElem?_map]
  cases word[k]? with
  | none => rfl
  | some x =>
    have h := subIn_map R [x] (word.take k)
    rw [List.map_cons, List.map_nil, List.map_take] at h
    simp only [Option.map_some]
    rw [h]
    split <;> rfl
theorem range_lt {n k : Nat} (h : k ∈ List.range' 0 n) : k < n := by
  have := List.mem_range'_1.mp h; omega
theorem pick_map (word : Tx) (n : Nat) (hn : n ≤ word.length) (p q : Nat → Bool) (h : ∀ k, p k = q k) :
    ((List.range' 0 n).filter p).map (fun k => (word.map φ).getD k 0) = (((List.range' 0 n).filter q).map fun k => word.getD k 0).map φ := by
  have : p = q := funext h
  subst this
  rw [List.map_map]
  apply List.map_congr_left
  intro k hk
  have := range_lt R (List.mem_filter.mp hk).1
  exact getD_map R word k (by omega)
theorem lettersOf_map (word : Tx) (hl : word.length = 5) : lettersOf (word.map φ) = (lettersOf word).map φ := by
  unfold lettersOf
  exact pick_map R word 5 (by omega) _ _ (fun k => by rw [letGo_map R, Option.isSome_map])
theorem cont_map (l : Tx) (x : Nat) : (oneL (l.map φ)).contains [φ x] = (oneL l).contains [x] := by
  rw [Bool.eq_iff_iff]
  simp only [oneL, List.contains_iff_mem, List.mem_map]
  constructor
  · rintro ⟨a, ⟨b, hb, rfl⟩, e⟩
    have : b = x := (R.eq _ _).mp (by simpa using e)
    exact ⟨b, hb, by rw [this]⟩
  · rintro ⟨a, ha, e⟩
    have : a = x := by simpa using e
    exact ⟨φ a, ⟨a, ha, rfl⟩, by rw [this]⟩
theorem rowOf_map (text letters : Tx) : rowOf (text.map φ) (letters.map φ) = (rowOf text letters).map φ := by
  unfold rowOf
  exact filter_map R _ _ _ (cont_map R letters)
theorem topsOf_map (text letters : Tx) (hl : text.length = 15) : topsOf (text.map φ) (letters.map φ) = (topsOf text letters).map φ := by
  unfold topsOf
  refine pick_map R text 15 (by omega) _ _ (fun k => ?_)
  rw [List.getElem?_map]
  cases text[k]? with
  | none => rfl
  | some x =>
    simp only [Option.map_some]
    rw [cont_map R, slcN_map R, checkP_map R]
theorem joinedOf_map (pieces : List Tx) : joinedOf (pieces.map (List.map φ)) = (joinedOf pieces).map (List.map φ) := by
  unfold joinedOf
  rw [List.length_map, List.map_map]
  apply List.map_congr_left
  intro k hk
  have := range_lt R hk
  have g : ∀ j, j < pieces.length → (pieces.map (List.map φ)).getD j [] = (pieces.getD j []).map φ := fun j hj => by
    rw [List.getD_eq_getElem?_getD, List.getD_eq_getElem?_getD, List.getElem?_map, List.getElem?_eq_getElem hj]; rfl
  simp only [Function.comp]
  rw [g _ (by omega), g _ (by omega), List.map_append]
theorem eqL_map (a b : List Tx) : (a.map (List.map φ) == b.map (List.map φ)) = (a == b) := by
  rw [Bool.eq_iff_iff, beq_iff_eq, beq_iff_eq]
  exact List.map_inj_right (fun a b h => (List.map_inj_right (fun a b h => (R.eq a b).mp h)).mp h)
theorem filterZ_map (word letters : Tx) (hw : word.length = 5) : (letters.map φ).filter (fun z => decide ((word.map φ).getD 0 0 < z)) = (letters.filter fun z => decide (word.getD 0 0 < z)).map φ := by
  refine filter_map R _ _ _ (fun x => ?_)
  rw [getD_map R word 0 (by omega), R.dec]
theorem one_map (x : Nat) : [φ x] = [x].map φ := rfl
theorem lawCom_map (word : Tx) (hl : word.length = 5) : lawCom (word.map φ) = lawCom word := by
  have hd := dots_map R
  have gl := grownF_len 5 word (by omega)
  unfold lawCom
  simp only
  rw [lettersOf_map R word hl, grownF_map R]
  simp only
  have hw := wRun_map R (lettersOf word) 25 [(grownF 5 word).2] 0
  rw [List.map_cons, List.map_nil] at hw
  rw [hw]
  cases wRun (lettersOf word) 25 [(grownF 5 word).2] 0 with
  | none => rfl
  | some words =>
    simp only [Option.map_some]
    have p1 : (words.map (List.map φ)).all (fun one => grownF 5 one == ((grownF 5 word).1.map φ, (grownF 5 word).2.map φ)) = words.all (fun one => grownF 5 one == grownF 5 word) := by
      rw [List.all_map]
      congr 1
      funext one
      show (grownF 5 (one.map φ) == _) = _
      rw [grownF_map R, Bool.eq_iff_iff, beq_iff_eq, beq_iff_eq, Prod.ext_iff, Prod.ext_iff]
      simp only
      rw [List.map_inj_right (fun a b h => (R.eq a b).mp h), List.map_inj_right (fun a b h => (R.eq a b).mp h)]
    have p2 : (words.map (List.map φ)).filter (fun one => collI ((grownF 5 word).2.map φ) one == -1 && collI one ((grownF 5 word).2.map φ) == 1) = (words.filter fun one => collI (grownF 5 word).2 one == -1 && collI one (grownF 5 word).2 == 1).map (List.map φ) :=
      filterT_map R _ _ _ (fun x => by rw [collI_map R, collI_map R])
    have p3 : (words.map (List.map φ)).filter (fun one => collI one (word.map φ) == 0) = (words.filter fun one => collI one word == 0).map (List.map φ) :=
      filterT_map R _ _ _ (fun x => by rw [collI_map R])
    have p4 : ((lettersOf word).map φ).filter (fun z => collI (word.map φ) [z] == -1) = ((lettersOf word).filter fun z => collI word [z] == -1).map φ :=
      filter_map R _ _ _ (fun x => by rw [one_map R, collI_map R])
    have p6 : (words.map (List.map φ)).filter (fun one => ellM (word.map φ) one) = (words.filter fun one => ellM word one).map (List.map φ) :=
      filterT_map R _ _ _ (fun x => by rw [ellM_map R])
    have p8 : ((lettersOf word).map φ).filter (fun z => ellM (dots ++ [z]) (word.map φ)) = ((lettersOf word).filter fun z => ellM (dots ++ [z]) word).map φ :=
      filter_map R _ _ _ (fun x => by
        have := ellM_map R (dots ++ [x]) word
        rw [List.map_append, hd] at this
        exact this)
    have p9 : ((lettersOf word).map φ).filter (fun z => ellM ([z] ++ dots) (word.map φ)) = ((lettersOf word).filter fun z => ellM ([z] ++ dots) word).map φ :=
      filter_map R _ _ _ (fun x => by
        have := ellM_map R ([x] ++ dots) word
        rw [List.map_append, hd] at this
        exact this)
    rw [p1, p2, p3, p4, p6, p8, p9, filterZ_map R _ _ hl, endsF_map R _ hl, topsOf_map R _ _ (by have := gl.1; omega), List.length_map, prodF_map R, ← List.map_tail, eqL_map R,
      show [word.map φ] = [word].map (List.map φ) from rfl, eqL_map R, eqL_map R, eqT_map R, eqT_map R]
    congr 1
    cases (lettersOf word).filter (fun z => ellM ([z] ++ dots) word) with
    | nil => rfl
    | cons f r =>
      cases r with
      | cons _ _ => rfl
      | nil =>
        simp only [List.map_cons, List.map_nil]
        have h1 := subIn_map R [40, f, 41] (grownF 5 word).1
        have h2 := checkP_map R ([40, 34, 41, 34] ++ [f] ++ [92, 41, 41])
        simp only [List.map_append, List.map_cons, List.map_nil, R.fix 40 (by decide), R.fix 34 (by decide), R.fix 41 (by decide), R.fix 92 (by decide)] at h1 h2
        rw [h1]
        congr 1
theorem lawForm_map (word : Tx) (form : Nat) (hl : word.length = 5) : lawForm (word.map φ) form = lawForm word form := by
  unfold lawForm
  simp only
  rw [lettersOf_map R word hl, grownF_map R]
  simp only
  rw [sizesF_map R, rowOf_map R]
  cases grpX 7 none (rulF (sizesF (grownF 5 word).1) form).1 with
  | none => rfl
  | some p =>
    obtain ⟨xs, e⟩ := p
    simp only
    rw [cutF_map R]
    simp only
    rw [joinedOf_map R, List.all_map, List.all_map]
    congr 2
    · congr 1
      funext p
      show (match inOrd (p.map φ) (word.map φ) with | some true => true | _ => false) = _
      rw [inOrd_map R] <;> rfl
    · funext p
      show (match inOrd (p.map φ) (word.map φ) with | some false => true | _ => false) = _
      rw [inOrd_map R] <;> rfl
theorem lawB_map (word : Tx) (hl : word.length = 5) : lawB (word.map φ) = lawB word := by
  unfold lawB
  rw [lawCom_map R word hl, lawForm_map R word _ hl, lawForm_map R word _ hl, lawForm_map R word _ hl, lawForm_map R word _ hl]
end
end Mine
namespace Mine

/-- a letter put in its place -/
def ins (x : Nat) : Tx → Tx
  | [] => [x]
  | y :: t => if x < y then x :: y :: t else if x = y then y :: t else y :: ins x t
def srt : Tx → Tx
  | [] => []
  | x :: t => ins x (srt t)
theorem mem_ins (x y : Nat) : ∀ l : Tx, y ∈ ins x l ↔ y = x ∨ y ∈ l
  | [] => by simp [ins]
  | z :: t => by
    unfold ins
    split
    · simp
    · split
      · rename_i h; subst h; simp
      · simp only [List.mem_cons, mem_ins x y t]
        constructor
        · rintro (h | h | h) <;> simp [h]
        · rintro (h | h | h) <;> simp [h]
theorem mem_srt (y : Nat) : ∀ l : Tx, y ∈ srt l ↔ y ∈ l
  | [] => by simp [srt]
  | x :: t => by unfold srt; rw [mem_ins, mem_srt y t, List.mem_cons]
theorem ins_len (x : Nat) : ∀ l : Tx, (ins x l).length ≤ l.length + 1
  | [] => by simp [ins]
  | z :: t => by
    unfold ins
    split
    · simp
    · split
      · simp
      · have := ins_len x t; simp; omega
theorem srt_len : ∀ l : Tx, (srt l).length ≤ l.length
  | [] => by simp [srt]
  | x :: t => by
    unfold srt
    have := ins_len x (srt t)
    have := srt_len t
    simp; omega
theorem ins_srt (x : Nat) : ∀ l : Tx, l.Pairwise (· < ·) → (ins x l).Pairwise (· < ·)
  | [], h => by simp [ins]
  | z :: t, h => by
    rw [List.pairwise_cons] at h
    unfold ins
    split
    · rename_i hx
      rw [List.pairwise_cons, List.pairwise_cons]
      refine ⟨fun y hy => ?_, h⟩
      rcases List.mem_cons.mp hy with rfl | hy
      · exact hx
      · exact Nat.lt_trans hx (h.1 y hy)
    · split
      · rw [List.pairwise_cons]; exact h
      · rw [List.pairwise_cons]
        refine ⟨fun y hy => ?_, ins_srt x t h.2⟩
        rcases (mem_ins x y t).mp hy with rfl | hy
        · omega
        · exact h.1 y hy
theorem srt_srt : ∀ l : Tx, (srt l).Pairwise (· < ·)
  | [] => .nil
  | x :: t => ins_srt x _ (srt_srt t)
def renOf (D : Tx) (n : Nat) : Nat := if n < 97 then n else (D[n - 97]?).getD (n + 26)
theorem ren_of (D : Tx) (hs : D.Pairwise (· < ·)) (hb : ∀ x ∈ D, 97 ≤ x ∧ x < 123) : Ren (renOf D) where
  fix := fun n h => by unfold renOf; rw [if_pos h]
  lt := fun a b h => by
    have key : ∀ n, 97 ≤ n → (∃ hn : n - 97 < D.length, renOf D n = D[n - 97] ∧ 97 ≤ D[n - 97] ∧ D[n - 97] < 123) ∨ (D.length ≤ n - 97 ∧ renOf D n = n + 26) := fun n hn => by
      unfold renOf
      rw [if_neg (by omega)]
      rcases Nat.lt_or_ge (n - 97) D.length with q | q
      · refine .inl ⟨q, by rw [List.getElem?_eq_getElem q]; rfl, hb _ (List.getElem_mem q)⟩
      · refine .inr ⟨q, by rw [List.getElem?_eq_none q]; rfl⟩
    rcases Nat.lt_or_ge b 97 with hb' | hb'
    · unfold renOf; rw [if_pos (by omega), if_pos hb']; exact h
    · rcases Nat.lt_or_ge a 97 with ha' | ha'
      · have ea : renOf D a = a := by unfold renOf; rw [if_pos ha']
        rcases key b hb' with ⟨_, e, g, _⟩ | ⟨_, e⟩ <;> rw [ea, e] <;> omega
      · rcases key a ha' with ⟨q, e, g, g'⟩ | ⟨q, e⟩
        · rcases key b hb' with ⟨r, e', _, _⟩ | ⟨_, e'⟩
          · rw [e, e']
            exact List.pairwise_iff_getElem.mp hs (a - 97) (b - 97) q r (by omega)
          · rw [e, e']; omega
        · rcases key b hb' with ⟨r, e', _, _⟩ | ⟨_, e'⟩
          · omega
          · rw [e, e']; omega
theorem idx_srt (D : Tx) (hs : D.Pairwise (· < ·)) (i : Nat) (h : i < D.length) : D.idxOf D[i] = i := by
  have h1 : D.idxOf D[i] < D.length := List.idxOf_lt_length_of_mem (List.getElem_mem h)
  have h2 : D[D.idxOf D[i]] = D[i] := List.getElem_idxOf h1
  have p := List.pairwise_iff_getElem.mp hs
  rcases Nat.lt_trichotomy (D.idxOf D[i]) i with q | q | q
  · have := p _ _ h1 h q; omega
  · exact q
  · have := p _ _ h h1 q; omega
def dense (st : Tx) : Bool := st.all fun x => x == 97 || st.contains (x - 1)
theorem patt (w : Tx) (hw : ∀ x ∈ w, 97 ≤ x ∧ x < 123) : ∃ φ st, Ren φ ∧ w = st.map φ ∧ st.length = w.length ∧ (∀ x ∈ st, 97 ≤ x ∧ x < 97 + w.length) ∧ dense st = true := by
  have hs := srt_srt w
  have hm : ∀ x, x ∈ srt w ↔ x ∈ w := fun x => mem_srt x w
  have hl := srt_len w
  generalize srt w = D at *
  refine ⟨renOf D, w.map fun x => 97 + D.idxOf x, ren_of D hs (fun x hx => hw x ((hm x).mp hx)), ?_, by simp, ?_, ?_⟩
  · rw [List.map_map]
    conv => lhs; rw [← List.map_id' w]
    apply List.map_congr_left
    intro x hx
    have h1 : D.idxOf x < D.length := List.idxOf_lt_length_of_mem ((hm x).mpr hx)
    show x = renOf D (97 + D.idxOf x)
    unfold renOf
    rw [if_neg (by omega), Nat.add_sub_cancel_left, List.getElem?_eq_getElem h1]
    exact (List.getElem_idxOf h1).symm
  · intro x hx
    obtain ⟨y, hy, rfl⟩ := List.mem_map.mp hx
    have h1 : D.idxOf y < D.length := List.idxOf_lt_length_of_mem ((hm y).mpr hy)
    omega
  · unfold dense
    rw [List.all_eq_true]
    intro x hx
    obtain ⟨y, hy, rfl⟩ := List.mem_map.mp hx
    have h1 : D.idxOf y < D.length := List.idxOf_lt_length_of_mem ((hm y).mpr hy)
    rw [Bool.or_eq_true, beq_iff_eq, List.contains_iff_mem, List.mem_map]
    rcases Nat.eq_zero_or_pos (D.idxOf y) with q | q
    · exact .inl (by omega)
    · refine .inr ⟨D[D.idxOf y - 1], (hm _).mp (List.getElem_mem _), ?_⟩
      rw [idx_srt D hs]
      omega
end Mine
namespace Mine

/-! twins: the same functions by the recursors themselves, which the kernel steps through some twenty times faster -/
noncomputable section
variable {α β : Type}
def sel (c : Bool) (t e : α) : α := Bool.rec (motive := fun _ => α) e t c
theorem sel_ite (c : Bool) (t e : α) : sel c t e = if c = true then t else e := by cases c <;> rfl
theorem sel_and (c t : Bool) : sel c t false = (c && t) := by cases c <;> rfl
theorem sel_or (c t : Bool) : sel c true t = (c || t) := by cases c <;> rfl
theorem nbeq (x y : Nat) : Nat.beq x y = (x == y) := by rw [Bool.eq_iff_iff, Nat.beq_eq, beq_iff_eq]
theorem nblt (x y : Nat) : Nat.ble (Nat.succ x) y = decide (x < y) := by rw [Bool.eq_iff_iff, Nat.ble_eq, decide_eq_true_eq]; exact Iff.rfl
theorem nble (x y : Nat) : Nat.ble x y = decide (x ≤ y) := by rw [Bool.eq_iff_iff, Nat.ble_eq, decide_eq_true_eq]

def appF (a b : List α) : List α := List.rec (motive := fun _ => List α) b (fun x _ ih => x :: ih) a
theorem appF_eq : ∀ (a b : List α), a ++ b = appF a b
  | [], b => rfl
  | x :: a, b => congrArg (x :: ·) (appF_eq a b)
def filtF (p : α → Bool) (l : List α) : List α := List.rec (motive := fun _ => List α) [] (fun x _ ih => sel (p x) (x :: ih) ih) l
theorem filtF_eq (p : α → Bool) : ∀ l : List α, l.filter p = filtF p l
  | [] => rfl
  | x :: l => by
    show _ = sel (p x) (x :: filtF p l) (filtF p l)
    rw [← filtF_eq p l, List.filter_cons, sel_ite]
def anyF (p : α → Bool) (l : List α) : Bool := List.rec (motive := fun _ => Bool) false (fun x _ ih => sel (p x) true ih) l
theorem anyF_eq (p : α → Bool) : ∀ l : List α, l.any p = anyF p l
  | [] => rfl
  | x :: l => by
    show _ = sel (p x) true (anyF p l)
    rw [← anyF_eq p l, List.any_cons, sel_or]
def allF (p : α → Bool) (l : List α) : Bool := List.rec (motive := fun _ => Bool) true (fun x _ ih => sel (p x) ih false) l
theorem allF_eq (p : α → Bool) : ∀ l : List α, l.all p = allF p l
  | [] => rfl
  | x :: l => by
    show _ = sel (p x) (allF p l) false
    rw [← allF_eq p l, List.all_cons, sel_and]
def mapF (f : α → β) (l : List α) : List β := List.rec (motive := fun _ => List β) [] (fun x _ ih => f x :: ih) l
theorem mapF_eq (f : α → β) : ∀ l : List α, l.map f = mapF f l
  | [] => rfl
  | x :: l => congrArg (f x :: ·) (mapF_eq f l)
def lenF (l : List α) : Nat := List.rec (motive := fun _ => Nat) 0 (fun _ _ ih => Nat.add ih 1) l
theorem lenF_eq : ∀ l : List α, l.length = lenF l
  | [] => rfl
  | x :: l => congrArg (· + 1) (lenF_eq l)
def takeF (n : Nat) : List α → List α := Nat.rec (motive := fun _ => List α → List α) (fun _ => []) (fun _ ih l => List.rec (motive := fun _ => List α) [] (fun x t _ => x :: ih t) l) n
theorem takeF_eq : ∀ (n : Nat) (l : List α), l.take n = takeF n l
  | 0, l => by rw [List.take_zero]; rfl
  | n + 1, [] => rfl
  | n + 1, x :: t => congrArg (x :: ·) (takeF_eq n t)
def dropF (n : Nat) : List α → List α := Nat.rec (motive := fun _ => List α → List α) (fun l => l) (fun _ ih l => List.rec (motive := fun _ => List α) [] (fun _ t _ => ih t) l) n
theorem dropF_eq : ∀ (n : Nat) (l : List α), l.drop n = dropF n l
  | 0, l => rfl
  | n + 1, [] => rfl
  | n + 1, x :: t => dropF_eq n t
def nthF (l : List α) (n : Nat) : Option α := List.rec (motive := fun _ => Option α) none (fun x _ _ => some x) (dropF n l)
theorem nthF_eq : ∀ (l : List α) (n : Nat), l[n]? = nthF l n
  | [], n => by cases n <;> rfl
  | x :: t, 0 => rfl
  | x :: t, n + 1 => by rw [List.getElem?_cons_succ]; exact nthF_eq t n
def nthD (l : List α) (n : Nat) (d : α) : α := List.rec (motive := fun _ => α) d (fun x _ _ => x) (dropF n l)
theorem nthD_eq : ∀ (l : List α) (n : Nat) (d : α), l.getD n d = nthD l n d
  | [], n, d => by cases n <;> rfl
  | x :: t, 0, d => rfl
  | x :: t, n + 1, d => by rw [List.getD_cons_succ]; exact nthD_eq t n d
def lastF (l : List α) (d : α) : α := List.rec (motive := fun _ => α → α) (fun d => d) (fun x _ ih _ => ih x) l d
theorem lastF_eq : ∀ (l : List α) (d : α), l.getLastD d = lastF l d
  | [], d => rfl
  | x :: t, d => by
    rw [List.getLastD_cons]
    exact lastF_eq t x
def initF (l : List α) : List α := List.rec (motive := fun _ => List α) [] (fun x t ih => List.rec (motive := fun _ => List α) [] (fun _ _ _ => x :: ih) t) l
theorem initF_eq : ∀ l : List α, l.dropLast = initF l
  | [] => rfl
  | [x] => rfl
  | x :: y :: t => by
    rw [List.dropLast_cons_cons, initF_eq (y :: t)]
    rfl
def empF (l : List α) : Bool := List.rec (motive := fun _ => Bool) true (fun _ _ _ => false) l
theorem empF_eq (l : List α) : l.isEmpty = empF l := by cases l <;> rfl
def headF (l : List α) (d : α) : α := List.rec (motive := fun _ => α) d (fun x _ _ => x) l
theorem headF_eq (l : List α) (d : α) : l.headD d = headF l d := by cases l <;> rfl
def tailF (l : List α) : List α := List.rec (motive := fun _ => List α) [] (fun _ t _ => t) l
theorem tailF_eq (l : List α) : l.tail = tailF l := by cases l <;> rfl
def flatF (l : List (List α)) : List α := List.rec (motive := fun _ => List α) [] (fun x _ ih => appF x ih) l
theorem flatF_eq : ∀ l : List (List α), l.flatten = flatF l
  | [] => rfl
  | x :: l => by
    show _ = appF x (flatF l)
    rw [← flatF_eq l, ← appF_eq, List.flatten_cons]
def repF (n : Nat) (x : α) : List α := Nat.rec (motive := fun _ => List α) [] (fun _ ih => x :: ih) n
theorem repF_eq (x : α) : ∀ n, List.replicate n x = repF n x
  | 0 => rfl
  | n + 1 => congrArg (x :: ·) (repF_eq x n)

def eqT (a : Tx) : Tx → Bool := List.rec (motive := fun _ => Tx → Bool) (fun b => empF b) (fun x _ ih b => List.rec (motive := fun _ => Bool) false (fun y t _ => sel (Nat.beq x y) (ih t) false) b) a
theorem eqT_iff : ∀ a b : Tx, eqT a b = true ↔ a = b
  | [], b => by cases b <;> simp [eqT, empF]
  | x :: a, [] => by simp [eqT]
  | x :: a, y :: b => by
    show sel (Nat.beq x y) (eqT a b) false = true ↔ _
    rw [sel_and, nbeq, Bool.and_eq_true, beq_iff_eq, eqT_iff a b, List.cons.injEq]
theorem eqT_eq (a b : Tx) : (a == b) = eqT a b := by rw [Bool.eq_iff_iff, beq_iff_eq, eqT_iff]
def eqTT (a : List Tx) : List Tx → Bool := List.rec (motive := fun _ => List Tx → Bool) (fun b => empF b) (fun x _ ih b => List.rec (motive := fun _ => Bool) false (fun y t _ => sel (eqT x y) (ih t) false) b) a
theorem eqTT_iff : ∀ a b : List Tx, eqTT a b = true ↔ a = b
  | [], b => by cases b <;> simp [eqTT, empF]
  | x :: a, [] => by simp [eqTT]
  | x :: a, y :: b => by
    show sel (eqT x y) (eqTT a b) false = true ↔ _
    rw [sel_and, Bool.and_eq_true, eqT_iff, eqTT_iff a b, List.cons.injEq]
theorem eqTT_eq (a b : List Tx) : (a == b) = eqTT a b := by rw [Bool.eq_iff_iff, beq_iff_eq, eqTT_iff]
def memF (x : Nat) (l : Tx) : Bool := anyF (Nat.beq x) l
theorem memF_iff (x : Nat) (l : Tx) : memF x l = true ↔ x ∈ l := by
  unfold memF
  rw [← anyF_eq, List.any_eq_true]
  constructor
  · rintro ⟨y, hy, h⟩
    rw [Nat.beq_eq] at h
    exact h ▸ hy
  · intro h
    exact ⟨x, h, by rw [Nat.beq_eq]⟩

def preF (a : Tx) : Tx → Bool := List.rec (motive := fun _ => Tx → Bool) (fun _ => true) (fun x _ ih b => List.rec (motive := fun _ => Bool) false (fun y t _ => sel (Nat.beq x y) (ih t) false) b) a
theorem preF_eq : ∀ (a b : Tx), prefixB a b = preF a b
  | [], b => by cases b <;> rfl
  | x :: a, [] => rfl
  | x :: a, y :: b => by
    show (x == y && prefixB a b) = sel (Nat.beq x y) (preF a b) false
    rw [preF_eq a b, sel_and, nbeq]
def subF (s : Tx) (b : Tx) : Bool := List.rec (motive := fun _ => Bool) (preF s []) (fun x t ih => sel (preF s (x :: t)) true ih) b
theorem subF_eq (s : Tx) : ∀ b : Tx, subIn s b = subF s b
  | [] => preF_eq s []
  | x :: t => by
    show (prefixB s (x :: t) || subIn s t) = sel (preF s (x :: t)) true (subF s t)
    rw [subF_eq s t, sel_or, preF_eq]
theorem subOne (x : Nat) : ∀ l : Tx, subIn [x] l = memF x l
  | [] => rfl
  | y :: t => by
    show ((x == y && prefixB [] t) || subIn [x] t) = sel (Nat.beq x y) true (memF x t)
    rw [subOne x t, sel_or, nbeq]
    cases t <;> simp [prefixB]
def sufF (b a : Tx) : Bool := sel (Nat.ble (lenF b) (lenF a)) (preF b (dropF (Nat.sub (lenF a) (lenF b)) a)) false
theorem sufF_eq (b a : Tx) : suffixB b a = sufF b a := by
  unfold suffixB sufF
  rw [sel_and, nble, ← lenF_eq, ← lenF_eq, ← dropF_eq, preF_eq]
  rfl
def splF (sp : Tx) (m : Nat) (x : Tx) : Nat → Tx → List Tx := List.rec (motive := fun _ => Nat → Tx → List Tx) (fun _ cur => [cur])
  (fun x t ih k cur => Nat.rec (motive := fun _ => List Tx) (sel (preF sp (x :: t)) (cur :: ih m []) (ih 0 (appF cur [x]))) (fun k' _ => ih k' cur) k) x
theorem splF_eq (sp : Tx) : ∀ (x : Tx) (k : Nat) (cur : Tx), splitGo sp k cur x = splF sp (sp.length - 1) x k cur
  | [], k, cur => by cases k <;> rfl
  | x :: t, 0, cur => by
    show (if prefixB sp (x :: t) = true then cur :: splitGo sp (sp.length - 1) [] t else splitGo sp 0 (cur ++ [x]) t) = sel (preF sp (x :: t)) (cur :: splF sp (sp.length - 1) t (sp.length - 1) []) (splF sp (sp.length - 1) t 0 (appF cur [x]))
    rw [sel_ite, preF_eq, splF_eq sp t, splF_eq sp t, appF_eq]
  | x :: t, k + 1, cur => splF_eq sp t k cur
def fndF (sub : Tx) (n hi : Nat) (x : Tx) : Nat → Option Nat := List.rec (motive := fun _ => Nat → Option Nat) (fun i => sel (Nat.ble (Nat.add i n) hi) (sel (preF sub []) (some i) none) none)
  (fun x t ih i => sel (Nat.ble (Nat.add i n) hi) (sel (preF sub (x :: t)) (some i) (ih (Nat.add i 1))) (ih (Nat.add i 1))) x
theorem ite_and2 {p : Bool} {q : Bool} (a b : α) : (if (p && q) = true then a else b) = if p = true then (if q = true then a else b) else b := by cases p <;> cases q <;> rfl
theorem fndF_eq (sub : Tx) (hi : Nat) : ∀ (x : Tx) (i : Nat), findGo sub hi i x = fndF sub sub.length hi x i
  | [], i => by
    show (if (decide (i + sub.length ≤ hi) && prefixB sub []) = true then some i else none) = sel (Nat.ble (i + sub.length) hi) (sel (preF sub []) (some i) none) none
    rw [sel_ite, sel_ite, nble, ← preF_eq, ite_and2]
  | x :: t, i => by
    show (if (decide (i + sub.length ≤ hi) && prefixB sub (x :: t)) = true then some i else findGo sub hi (i + 1) t) = sel (Nat.ble (i + sub.length) hi) (sel (preF sub (x :: t)) (some i) (fndF sub sub.length hi t (i + 1))) (fndF sub sub.length hi t (i + 1))
    rw [sel_ite, sel_ite, nble, ← preF_eq, ← fndF_eq sub hi t, ite_and2]
def midF (got : Tx) (hi : Nat) (ws : List Tx) : Nat → Bool := List.rec (motive := fun _ => Nat → Bool) (fun _ => true)
  (fun w _ ih lo => Option.rec (motive := fun _ => Bool) false (fun k => ih (Nat.add k (lenF w))) (fndF w (lenF w) hi (dropF lo got) lo)) ws
theorem midF_eq (got : Tx) (hi : Nat) : ∀ (ws : List Tx) (lo : Nat), ellMid got hi ws lo = midF got hi ws lo
  | [], lo => rfl
  | w :: ws, lo => by
    show _ = Option.rec (motive := fun _ => Bool) false (fun k => midF got hi ws (Nat.add k (lenF w))) (fndF w (lenF w) hi (dropF lo got) lo)
    rw [← lenF_eq, ← dropF_eq, ← fndF_eq]
    cases h : findGo w hi lo (got.drop lo) with
    | none => rw [ellMid_none h]
    | some k => rw [ellMid_some h, midF_eq got hi ws]; rfl
def ellCF (got : Tx) (lo hi : Nat) (ws : List Tx) : Bool := sel (Nat.ble lo hi) (midF got hi ws lo) false
theorem ellCF_eq (got : Tx) (lo hi : Nat) (ws : List Tx) : ellC got lo hi ws = ellCF got lo hi ws := by
  unfold ellC ellCF
  rw [sel_and, nble, midF_eq]
  by_cases h : hi < lo
  · rw [if_pos h, decide_eq_false (by omega)]; rfl
  · rw [if_neg h, decide_eq_true (by omega)]; rfl
def ellBF (got : Tx) (lo : Nat) (ws : List Tx) : Bool := sel (empF (lastF ws [])) (ellCF got lo (lenF got) ws) (sel (sufF (lastF ws []) got) (ellCF got lo (Nat.sub (lenF got) (lenF (lastF ws []))) (initF ws)) false)
theorem ellBF_eq (got : Tx) (lo : Nat) (ws : List Tx) : ellB got lo ws = ellBF got lo ws := by
  unfold ellB ellBF
  rw [sel_ite, sel_ite, ← lastF_eq, ← empF_eq, ← sufF_eq, ← ellCF_eq, ← ellCF_eq, ← lenF_eq, ← lenF_eq, ← initF_eq]
  rfl
def ellAF (got : Tx) (ws : List Tx) : Bool := sel (empF (headF ws [])) (ellBF got 0 ws) (sel (preF (headF ws []) got) (ellBF got (lenF (headF ws [])) (tailF ws)) false)
theorem ellAF_eq (got : Tx) (ws : List Tx) : ellA got ws = ellAF got ws := by
  unfold ellA ellAF
  rw [sel_ite, sel_ite, ← headF_eq, ← empF_eq, ← preF_eq, ← ellBF_eq, ← ellBF_eq, ← lenF_eq, ← tailF_eq]
def ellMF (want got : Tx) : Bool := sel (subF [46, 46, 46] want) (ellAF got (splF [46, 46, 46] 2 want 0 [])) (eqT want got)
theorem ellMF_eq (want got : Tx) : ellM want got = ellMF want got := by
  unfold ellM ellMF splitE
  rw [sel_ite, splF_eq, ellAF_eq, eqT_eq, subF_eq]
  rfl

/-! the brackets -/
def escF (l : Tx) : Nat → Bool → List (Nat × Tx) := List.rec (motive := fun _ => Nat → Bool → List (Nat × Tx)) (fun i esc => sel esc [(Nat.sub i 1, [92])] [])
  (fun x t ih i esc => sel esc ((i, [92, x]) :: ih (Nat.add i 1) false) (sel (Nat.beq x 92) (ih (Nat.add i 1) true) ((i, [x]) :: ih (Nat.add i 1) false))) l
theorem escF_eq : ∀ (l : Tx) (i : Nat) (b : Bool), escGo i b l = escF l i b
  | [], i, b => by cases b <;> rfl
  | x :: t, i, true => by
    show (i, [92, x]) :: escGo (i + 1) false t = (i, [92, x]) :: escF t (i + 1) false
    rw [escF_eq t]
  | x :: t, i, false => by
    show (if (x == 92) = true then escGo (i + 1) true t else (i, [x]) :: escGo (i + 1) false t) = sel (Nat.beq x 92) (escF t (i + 1) true) ((i, [x]) :: escF t (i + 1) false)
    rw [sel_ite, nbeq, escF_eq t, escF_eq t]
def eq1 (ch : Tx) (n : Nat) : Bool := List.rec (motive := fun _ => Bool) false (fun x t _ => sel (Nat.beq x n) (empF t) false) ch
theorem eq1_eq (ch : Tx) (n : Nat) : (ch == [n]) = eq1 ch n := by
  cases ch with
  | nil => rfl
  | cons x t =>
    show _ = sel (Nat.beq x n) (empF t) false
    rw [sel_and, nbeq, ← empF_eq, Bool.eq_iff_iff]
    simp
def chkF (l : List (Nat × Tx)) : Nat → Bool := List.rec (motive := fun _ => Nat → Bool) (fun o => Nat.beq o 0)
  (fun p _ ih o => sel (eq1 p.2 40) (ih (Nat.add o 1)) (sel (eq1 p.2 41) (Nat.rec (motive := fun _ => Bool) false (fun o' _ => ih o') o) (ih o))) l
def outO : Option Int → Bool
  | none => false
  | some o => o == 0
theorem chkF_eq : ∀ (l : List (Nat × Tx)) (o : Nat), outO (checkRun l (o : Int)) = chkF l o
  | [], o => by
    show ((o : Int) == 0) = Nat.beq o 0
    rw [nbeq, Bool.eq_iff_iff]
    simp
  | (p, ch) :: r, o => by
    show _ = sel (eq1 ch 40) (chkF r (o + 1)) (sel (eq1 ch 41) (Nat.rec (motive := fun _ => Bool) false (fun o' _ => chkF r o') o) (chkF r o))
    have ih := chkF_eq r
    rw [← eq1_eq, ← eq1_eq, sel_ite, sel_ite]
    by_cases h1 : (ch == [40]) = true
    · have e : checkRun ((p, ch) :: r) (o : Int) = checkRun r ((o + 1 : Nat) : Int) := by
        rw [checkRun, if_pos h1]; rfl
      rw [e, if_pos h1, ih]
    · by_cases h2 : (ch == [41]) = true
      · rw [if_neg h1, if_pos h2]
        cases o with
        | zero =>
          have e : checkRun ((p, ch) :: r) ((0 : Nat) : Int) = none := by
            rw [checkRun, if_neg h1, if_pos h2]; rfl
          rw [e]; rfl
        | succ o' =>
          have e : checkRun ((p, ch) :: r) ((o' + 1 : Nat) : Int) = checkRun r (o' : Int) := by
            rw [checkRun, if_neg h1, if_pos h2, if_neg (by simp), show ((o' + 1 : Nat) : Int) - 1 = (o' : Int) from by omega]
          rw [e, ih]
      · have e : checkRun ((p, ch) :: r) (o : Int) = checkRun r (o : Int) := by
          rw [checkRun, if_neg h1, if_neg h2]
        rw [e, if_neg h1, if_neg h2, ih]
def slF (l : Tx) (a b : Nat) : Tx := takeF (Nat.sub b a) (dropF a l)
theorem slF_eq (l : Tx) (a b : Nat) : slcN l a b = slF l a b := by
  unfold slcN slF; rw [takeF_eq, dropF_eq]; rfl
def strF (addr : Tx) (l : List (Nat × Tx)) : Nat → Option Nat → List Tx → Nat × List Tx := List.rec (motive := fun _ => Nat → Option Nat → List Tx → Nat × List Tx) (fun st _ res => (st, res))
  (fun p _ ih st op res => sel (eq1 p.2 34) (Option.rec (motive := fun _ => Nat × List Tx) (ih st (some p.1) res) (fun o => ih (Nat.add p.1 1) none (sel (Nat.beq st o) res (appF res [slF addr st o]))) op) (ih st op res)) l
theorem strF_eq (addr : Tx) : ∀ (l : List (Nat × Tx)) (st : Nat) (op : Option Nat) (res : List Tx), stripGo addr l st op res = strF addr l st op res
  | [], st, op, res => rfl
  | (p, ch) :: r, st, op, res => by
    show _ = sel (eq1 ch 34) (Option.rec (motive := fun _ => Nat × List Tx) (strF addr r st (some p) res) (fun o => strF addr r (p + 1) none (sel (Nat.beq st o) res (appF res [slF addr st o]))) op) (strF addr r st op res)
    unfold stripGo
    rw [← eq1_eq, sel_ite]
    split
    · cases op with
      | none => exact strF_eq addr r _ _ _
      | some o =>
        show stripGo addr r (p + 1) none _ = strF addr r (p + 1) none _
        rw [strF_eq addr r, sel_ite, nbeq, ← appF_eq, ← slF_eq]
        congr 1
        by_cases h : st = o
        · subst h; simp
        · simp [h]
    · exact strF_eq addr r _ _ _
def strQF (addr : Tx) : Tx := sel (memF 34 addr) (flatF (sel (Nat.ble (Nat.succ (strF addr (escF addr 0 false) 0 none []).1) (lenF addr)) (appF (strF addr (escF addr 0 false) 0 none []).2 [dropF (strF addr (escF addr 0 false) 0 none []).1 addr]) (strF addr (escF addr 0 false) 0 none []).2)) addr
theorem strQF_eq (addr : Tx) : stripQ addr = strQF addr := by
  unfold stripQ strQF stripF
  rw [joinT_nil, subOne, sel_ite, sel_ite, ← flatF_eq, strF_eq, escF_eq, nblt, ← lenF_eq, ← appF_eq, ← dropF_eq]
def dirty (l : Tx) : Bool := anyF (fun x => sel (Nat.beq x 34) true (Nat.beq x 92)) l
theorem dirty_eq (l : Tx) : dirty l = l.any fun x => x == 34 || x == 92 := by
  unfold dirty
  rw [← anyF_eq]
  congr 1
  funext x
  rw [sel_or, nbeq, nbeq]
def parF (l : Tx) : Nat → Bool := List.rec (motive := fun _ => Nat → Bool) (fun o => Nat.beq o 0)
  (fun x _ ih o => sel (Nat.beq x 40) (ih (Nat.add o 1)) (sel (Nat.beq x 41) (Nat.rec (motive := fun _ => Bool) false (fun o' _ => ih o') o) (ih o))) l
theorem parF_eq : ∀ (l : Tx) (i o : Nat), dirty l = false → chkF (escGo i false l) o = parF l o
  | [], i, o, h => rfl
  | x :: t, i, o, h => by
    rw [dirty_eq, List.any_cons, Bool.or_eq_false_iff, Bool.or_eq_false_iff] at h
    have ht := h.2
    rw [← dirty_eq] at ht
    unfold escGo
    rw [h.1.2, if_neg (by decide)]
    show sel (eq1 [x] 40) (chkF (escGo (i + 1) false t) (o + 1)) (sel (eq1 [x] 41) (Nat.rec (motive := fun _ => Bool) false (fun o' _ => chkF (escGo (i + 1) false t) o') o) (chkF (escGo (i + 1) false t) o)) =
      sel (Nat.beq x 40) (parF t (o + 1)) (sel (Nat.beq x 41) (Nat.rec (motive := fun _ => Bool) false (fun o' _ => parF t o') o) (parF t o))
    have e : ∀ n, eq1 [x] n = Nat.beq x n := fun n => by
      show sel (Nat.beq x n) true false = _
      cases Nat.beq x n <;> rfl
    rw [e, e, parF_eq t _ _ ht, parF_eq t _ _ ht]
    cases o with
    | zero => rfl
    | succ o' => 
      show sel (Nat.beq x 40) _ (sel (Nat.beq x 41) (chkF (escGo (i + 1) false t) o') _) = sel (Nat.beq x 40) _ (sel (Nat.beq x 41) (parF t o') _)
      rw [parF_eq t _ _ ht]
def checkPF (addr : Tx) : Bool := sel (dirty addr) (chkF (escF (strQF addr) 0 false) 0) (parF addr 0)
theorem checkPF_eq (addr : Tx) : checkP addr = checkPF addr := by
  unfold checkP checkPF
  have e : outO (checkRun (escGo 0 false (stripQ addr)) 0) = chkF (escGo 0 false (stripQ addr)) 0 := chkF_eq (escGo 0 false (stripQ addr)) 0
  refine Eq.trans ?_ (e.trans ?_)
  · cases checkRun (escGo 0 false (stripQ addr)) 0 <;> rfl
  · cases hd : dirty addr with
    | true => 
      show chkF (escGo 0 false (stripQ addr)) 0 = chkF (escF (strQF addr) 0 false) 0
      rw [escF_eq, strQF_eq]
    | false =>
      show chkF (escGo 0 false (stripQ addr)) 0 = parF addr 0
      have hs : stripQ addr = addr := by
        unfold stripQ
        rw [if_neg]
        intro hc
        rw [subOne, memF_iff] at hc
        rw [dirty_eq] at hd
        have := List.any_eq_false.mp hd 34 hc
        simp at this
      rw [hs, parF_eq addr 0 0 hd]

/-! the order -/
def ltF (a : Tx) : Tx → Bool := List.rec (motive := fun _ => Tx → Bool) (fun b => List.rec (motive := fun _ => Bool) false (fun _ _ _ => true) b) (fun x _ ih b => List.rec (motive := fun _ => Bool) false (fun y t _ => sel (Nat.ble (Nat.succ x) y) true (sel (Nat.beq x y) (ih t) false)) b) a
theorem ltF_iff : ∀ a b : Tx, ltF a b = true ↔ a < b
  | [], [] => by simp [ltF]
  | [], y :: t => by simp [ltF]
  | x :: a, [] => by simp [ltF]
  | x :: a, y :: b => by
    show sel (Nat.ble (Nat.succ x) y) true (sel (Nat.beq x y) (ltF a b) false) = true ↔ _
    rw [sel_or, sel_and, nblt, nbeq, List.cons_lt_cons_iff, Bool.or_eq_true, Bool.and_eq_true, decide_eq_true_eq, beq_iff_eq, ltF_iff a b]
theorem ltF_eq (a b : Tx) : decide (a < b) = ltF a b := by rw [Bool.eq_iff_iff, decide_eq_true_eq, ltF_iff]
theorem ltT_asymm (a b : Tx) (h : a < b) : ¬ b < a := List.lt_asymm h
theorem coll_m1 (a b : Tx) : (collI a b == -1) = ltF a b := by
  unfold collI
  rw [← ltF_eq]
  by_cases h : a < b
  · rw [decide_eq_true h, decide_eq_false (ltT_asymm a b h)]; rfl
  · rw [decide_eq_false h]
    by_cases g : b < a
    · rw [decide_eq_true g]; rfl
    · rw [decide_eq_false g]; rfl
theorem coll_p1 (a b : Tx) : (collI b a == 1) = ltF a b := by
  unfold collI
  rw [← ltF_eq]
  by_cases h : a < b
  · rw [decide_eq_true h, decide_eq_false (ltT_asymm a b h)]; rfl
  · rw [decide_eq_false h]
    by_cases g : b < a
    · rw [decide_eq_true g]; rfl
    · rw [decide_eq_false g]; rfl
theorem coll_0 (a b : Tx) : (collI a b == 0) = eqT a b := by
  unfold collI
  rw [← eqT_eq]
  by_cases h : a < b
  · rw [decide_eq_true h, decide_eq_false (ltT_asymm a b h)]
    have : a ≠ b := fun e => by subst e; exact ltT_asymm a a h h
    simp [this, bi]
  · rw [decide_eq_false h]
    by_cases g : b < a
    · rw [decide_eq_true g]
      have : a ≠ b := fun e => by subst e; exact h g
      simp [this, bi]
    · rw [decide_eq_false g]
      have : a = b := List.le_antisymm g h
      subst this
      simp [bi]
end
end Mine
namespace Mine

noncomputable section
/-! twins of law 1's functions -/
def grF (k : Nat) : Tx → Tx × Tx := Nat.rec (motive := fun _ => Tx → Tx × Tx) (fun _ => ([], [])) (fun _ ih w => sel (empF w) ([], [])
  (appF (40 :: (ih (filtF (fun x => Nat.ble x (lastF w 0)) (initF w))).1) (lastF w 0 :: appF (ih (filtF (fun x => Nat.ble (Nat.succ (lastF w 0)) x) (initF w))).1 [41]),
   appF (ih (filtF (fun x => Nat.ble x (lastF w 0)) (initF w))).2 (appF (ih (filtF (fun x => Nat.ble (Nat.succ (lastF w 0)) x) (initF w))).2 [lastF w 0]))) k
theorem grF_eq : ∀ (k : Nat) (w : Tx), grownF k w = grF k w
  | 0, w => rfl
  | k + 1, w => by
    show _ = sel (empF w) ([], []) (appF (40 :: (grF k (filtF (fun x => Nat.ble x (lastF w 0)) (initF w))).1) (lastF w 0 :: appF (grF k (filtF (fun x => Nat.ble (Nat.succ (lastF w 0)) x) (initF w))).1 [41]),
      appF (grF k (filtF (fun x => Nat.ble x (lastF w 0)) (initF w))).2 (appF (grF k (filtF (fun x => Nat.ble (Nat.succ (lastF w 0)) x) (initF w))).2 [lastF w 0]))
    cases w with
    | nil => rfl
    | cons a r =>
      have hl : (a :: r).getLast? = some (lastF (a :: r) 0) := by
        rw [← lastF_eq, List.getLastD_cons, List.getLast?_cons, List.getLastD_eq_getLast?]
      unfold grownF
      rw [hl]
      show ([40] ++ (grownF k ((a :: r).dropLast.filter fun x => !decide (lastF (a :: r) 0 < x))).1 ++ [lastF (a :: r) 0] ++ (grownF k ((a :: r).dropLast.filter fun x => decide (lastF (a :: r) 0 < x))).1 ++ [41], _) = (_, _)
      have e1 : (fun x => !decide (lastF (a :: r) 0 < x)) = fun x => Nat.ble x (lastF (a :: r) 0) := by
        funext x
        rw [nble, Bool.eq_iff_iff]; simp
      have e2 : (fun x => decide (lastF (a :: r) 0 < x)) = fun x => Nat.ble (Nat.succ (lastF (a :: r) 0)) x := by
        funext x
        rw [nblt]
      rw [e1, e2, grF_eq k, grF_eq k, filtF_eq, filtF_eq, initF_eq]
      simp only [← appF_eq, List.append_assoc, List.cons_append, List.nil_append]
def R04 : List Nat := [0, 1, 2, 3, 4]
def R014 : List Nat := [0, 1, 2, 3, 4, 5, 6, 7, 8, 9, 10, 11, 12, 13, 14]
def letsF (w : Tx) : Tx := mapF (fun k => nthD w k 0) (filtF (fun k => Option.rec (motive := fun _ => Bool) false (fun x => sel (memF x (takeF k w)) false true) (nthF w k)) R04)
theorem letsF_eq (w : Tx) : lettersOf w = letsF w := by
  unfold lettersOf letsF
  rw [← mapF_eq, ← filtF_eq]
  have e1 : (fun k => w.getD k 0) = fun k => nthD w k 0 := by funext k; exact nthD_eq w k 0
  have e2 : (fun k => (letGo w k).isSome) = fun k => Option.rec (motive := fun _ => Bool) false (fun x => sel (memF x (takeF k w)) false true) (nthF w k) := by
    funext k
    unfold letGo
    rw [← nthF_eq]
    cases w[k]? with
    | none => rfl
    | some x =>
      show (if subIn [x] (w.take k) = true then none else some x).isSome = sel (memF x (takeF k w)) false true
      rw [subOne, ← takeF_eq, sel_ite]
      split <;> rfl
  rw [e1, e2]
  rfl
def letFF (one : Tx) (p : Nat) (a b : Nat) (letters : Tx) : Bool := anyF (fun z => sel (Nat.ble a z) (sel (Nat.ble (Nat.succ z) b) (ellMF (appF (takeF (Nat.add p 2) one) (46 :: 46 :: 46 :: z :: 46 :: 46 :: 46 :: [])) one) false) false) letters
theorem letFF_eq (one : Tx) (p a b : Nat) (letters : Tx) (ha : one[p]? = some a) (hb : one[p + 1]? = some b) : letF one p letters = letFF one p a b letters := by
  unfold letF letFF
  rw [ha, hb]
  show letters.any (letOne one p a b) = _
  rw [← anyF_eq]
  congr 1
  funext z
  unfold letOne
  rw [sel_and, sel_and, nble, nblt, ellMF_eq, ← appF_eq, ← takeF_eq]
  have e : (!decide (z < a)) = decide (a ≤ z) := by rw [Bool.eq_iff_iff]; simp
  rw [e, Bool.and_assoc]
  congr 3
  simp [dots]
def wPlF (letters one : Tx) (p : Nat) (ws : List Tx) : List Tx := Option.rec (motive := fun _ => List Tx) ws (fun a => Option.rec (motive := fun _ => List Tx) ws (fun b =>
  sel (Nat.ble (Nat.succ a) b) (sel (letFF one p a b letters) (sel (anyF (fun old => ellMF (appF (takeF p one) (b :: a :: dropF (Nat.add p 2) one)) old) ws) ws (appF ws [appF (takeF p one) (b :: a :: dropF (Nat.add p 2) one)])) ws) ws) (nthF one (Nat.add p 1))) (nthF one p)
theorem lt_one (a b : Nat) : ltF [a] [b] = decide (a < b) := by
  show sel (Nat.ble (Nat.succ a) b) true (sel (Nat.beq a b) false false) = _
  rw [sel_or, nblt]
  cases Nat.beq a b <;> simp [sel]
theorem wPlF_eq (letters one : Tx) (p : Nat) (ws : List Tx) : wPlace letters one p ws = wPlF letters one p ws := by
  unfold wPlace wPlF
  rw [show Nat.add p 1 = p + 1 from rfl, ← nthF_eq, ← nthF_eq]
  cases ha : one[p]? with
  | none => rfl
  | some a =>
    cases hb : one[p + 1]? with
    | none => rfl
    | some b =>
      simp only
      rw [coll_m1, coll_p1, lt_one, letFF_eq one p a b letters ha hb, nblt, sel_ite, sel_ite, sel_ite]
      have e : one.take p ++ [b] ++ [a] ++ one.drop (p + 2) = appF (takeF p one) (b :: a :: dropF (Nat.add p 2) one) := by
        rw [← appF_eq, ← takeF_eq, ← dropF_eq]; simp
      rw [e]
      generalize appF (takeF p one) (b :: a :: dropF (Nat.add p 2) one) = nw
      have e2 : (ws.filter fun old => ellM nw old).isEmpty = !(anyF (fun old => ellMF nw old) ws) := by
        rw [← anyF_eq, Bool.eq_iff_iff]
        simp [ellMF_eq]
      rw [e2, ← appF_eq, ite_and2, ite_and2]
      by_cases h1 : a < b
      · simp only [h1, decide_true, if_true]
        by_cases h2 : letFF one p a b letters = true
        · rw [if_pos h2, if_pos h2]
          cases anyF (fun old => ellMF nw old) ws <;> rfl
        · rw [if_neg h2, if_neg h2]
      · simp only [h1, decide_false, Bool.false_eq_true, if_false]
def wInF (letters one : Tx) (ps : List Nat) : List Tx → List Tx := List.rec (motive := fun _ => List Tx → List Tx) (fun ws => ws) (fun p _ ih ws => ih (wPlF letters one p ws)) ps
theorem wInF_eq (letters one : Tx) : ∀ (ps : List Nat) (ws : List Tx), wInner letters one ps ws = wInF letters one ps ws
  | [], ws => rfl
  | p :: r, ws => by
    show wInner letters one r (wPlace letters one p ws) = wInF letters one r (wPlF letters one p ws)
    rw [wInF_eq letters one r, wPlF_eq]
/-- words of five letters alone -/
def wRnF (letters : Tx) (f : Nat) : List Tx → Nat → Option (List Tx) := Nat.rec (motive := fun _ => List Tx → Nat → Option (List Tx)) (fun _ _ => none)
  (fun _ ih ws turn => Option.rec (motive := fun _ => Option (List Tx)) (some ws) (fun one => ih (wInF letters one [0, 1, 2, 3] ws) (Nat.add turn 1)) (nthF ws turn)) f
theorem wRnF_eq (letters : Tx) : ∀ (f : Nat) (ws : List Tx) (turn : Nat), wOk 5 ws → wRun letters f ws turn = wRnF letters f ws turn
  | 0, ws, turn, h => rfl
  | f + 1, ws, turn, h => by
    show _ = Option.rec (motive := fun _ => Option (List Tx)) (some ws) (fun one => wRnF letters f (wInF letters one [0, 1, 2, 3] ws) (turn + 1)) (nthF ws turn)
    unfold wRun
    rw [← nthF_eq]
    cases ho : ws[turn]? with
    | none => rfl
    | some one =>
      have h1 := h one (List.mem_of_getElem? ho)
      have := (wInner_ok (letters := letters) h1 (List.range' 0 (one.length - 1)) ws h).1
      show wRun letters f (wInner letters one (List.range' 0 (one.length - 1)) ws) (turn + 1) = wRnF letters f (wInF letters one [0, 1, 2, 3] ws) (turn + 1)
      rw [wRnF_eq letters f _ _ this, h1.1, ← wInF_eq]
      rfl

/-! where a sign stands -/
def posF (p : Nat → Bool) (l : Tx) : Nat → List Nat := List.rec (motive := fun _ => Nat → List Nat) (fun _ => []) (fun x _ ih i => sel (p x) (i :: ih (Nat.add i 1)) (ih (Nat.add i 1))) l
theorem posF_eq (q : Nat → Bool) (text : Tx) : ∀ (l : Tx) (i : Nat), text.drop i = l → (List.range' i l.length).filter (fun k => match text[k]? with | some x => q x | none => false) = posF q l i
  | [], i, h => rfl
  | x :: t, i, h => by
    have hx : text[i]? = some x := by
      have := congrArg (fun l => l[0]?) h
      simpa [List.getElem?_drop] using this
    have ht : text.drop (i + 1) = t := by
      have := congrArg List.tail h
      simpa [List.tail_drop] using this
    show _ = sel (q x) (i :: posF q t (i + 1)) (posF q t (i + 1))
    rw [List.length_cons, List.range'_succ, List.filter_cons, hx, sel_ite, posF_eq q text t (i + 1) ht]
theorem placesF (text : Tx) (c lo : Nat) : placesOf text c lo = posF (fun x => Nat.beq x c) (dropF lo text) lo := by
  unfold placesOf
  rw [← posF_eq _ text (dropF lo text) lo (dropF_eq lo text), ← dropF_eq, List.length_drop]
  congr 1
  funext k
  cases text[k]? with
  | none => rfl
  | some x =>
    show (some x == some c) = Nat.beq x c
    rw [nbeq]; rfl
def prEnF (text : Tx) (b : Nat) (l : List Nat) (p : Nat) : Nat := List.rec (motive := fun _ => Nat) p (fun e _ ih => sel (checkPF (slF text b (Nat.add e 1))) (Nat.mul p (lenF (filtF (fun x => sel (Nat.beq x 40) false (sel (Nat.beq x 41) false true)) (slF text b e)))) ih) l
theorem notP_eq : notPar = fun x => sel (Nat.beq x 40) false (sel (Nat.beq x 41) false true) := by
  funext x
  unfold notPar
  rw [subOne]
  show (!sel (Nat.beq x 40) true (sel (Nat.beq x 41) true false)) = _
  cases Nat.beq x 40 <;> cases Nat.beq x 41 <;> rfl
theorem prEnF_eq (text : Tx) (b : Nat) : ∀ (l : List Nat) (p : Nat), prodEnd text b l p = prEnF text b l p
  | [], p => rfl
  | e :: r, p => by
    show _ = sel (checkPF (slF text b (e + 1))) (p * (lenF (filtF (fun x => sel (Nat.beq x 40) false (sel (Nat.beq x 41) false true)) (slF text b e)))) (prEnF text b r p)
    unfold prodEnd
    rw [sel_ite, checkPF_eq, slF_eq, slF_eq, lenF_eq, filtF_eq, notP_eq, prEnF_eq text b r]
def prGoF (text : Tx) (l : List Nat) : Nat → Nat := List.rec (motive := fun _ => Nat → Nat) (fun p => p) (fun b _ ih p => ih (prEnF text b (posF (fun x => Nat.beq x 41) (dropF b text) b) p)) l
theorem prGoF_eq (text : Tx) : ∀ (l : List Nat) (p : Nat), prodGo text l p = prGoF text l p
  | [], p => rfl
  | b :: r, p => by
    show prodGo text r (prodEnd text b (placesOf text 41 b) p) = prGoF text r (prEnF text b (posF (fun x => Nat.beq x 41) (dropF b text) b) p)
    rw [prGoF_eq text r, prEnF_eq, placesF]
def prodFF (text : Tx) : Nat := prGoF text (posF (fun x => Nat.beq x 40) text 0) 1
theorem prodFF_eq (text : Tx) : prodF text = prodFF text := by
  unfold prodF prodFF
  rw [prGoF_eq, placesF]
  rfl

/-! sizes: naturals -/
def ofN (l : List Nat) : List Int := l.map Int.ofNat
def gapF (text : Tx) (pl : List Nat) (k : Nat) : Tx := Option.rec (motive := fun _ => Tx) [] (fun a => Option.rec (motive := fun _ => Tx) [] (fun b => slF text (Nat.add a 1) b) (nthF pl (Nat.sub (lenF pl) k))) (nthF pl (Nat.sub (Nat.sub (lenF pl) k) 1))
theorem gapF_eq (text : Tx) (pl : List Nat) (k : Nat) : gapOf text pl k = gapF text pl k := by
  unfold gapOf gapF
  rw [← nthF_eq, ← nthF_eq, ← lenF_eq]
  show (match pl[pl.length - k - 1]?, pl[pl.length - k]? with | some a, some b => slcN text (a + 1) b | _, _ => []) = Option.rec (motive := fun _ => Tx) [] (fun a => Option.rec (motive := fun _ => Tx) [] (fun b => slF text (Nat.add a 1) b) (pl[pl.length - k]?)) (pl[pl.length - k - 1]?)
  cases pl[pl.length - k - 1]? with
  | none => rfl
  | some a =>
    cases pl[pl.length - k]? with
    | none => rfl
    | some b => exact slF_eq text (a + 1) b
def szGoF (text : Tx) (pl : List Nat) (l : List Nat) : List Nat → Nat → List Nat := List.rec (motive := fun _ => List Nat → Nat → List Nat) (fun pre last => appF pre [last])
  (fun k _ ih pre last => sel (checkPF (appF (gapF text pl k) (92 :: 41 :: mapF (fun x => sel (Nat.beq x 40) 41 40) (gapF text pl k)))) (ih (appF pre [last]) 1) (ih pre (Nat.add last 1))) l
theorem szGoF_eq (text : Tx) (pl : List Nat) : ∀ (l : List Nat) (pre : List Nat) (last : Nat), sizesGo text pl l (ofN pre) (Int.ofNat last) = ofN (szGoF text pl l pre last)
  | [], pre, last => by
    show ofN pre ++ [Int.ofNat last] = ofN (appF pre [last])
    rw [← appF_eq, ofN, ofN, List.map_append]; rfl
  | k :: r, pre, last => by
    show _ = ofN (sel (checkPF (appF (gapF text pl k) (92 :: 41 :: mapF (fun x => sel (Nat.beq x 40) 41 40) (gapF text pl k)))) (szGoF text pl r (appF pre [last]) 1) (szGoF text pl r pre (last + 1)))
    unfold sizesGo
    have e : gapOf text pl k ++ [92, 41] ++ (gapOf text pl k).map flipP = appF (gapF text pl k) (92 :: 41 :: mapF (fun x => sel (Nat.beq x 40) 41 40) (gapF text pl k)) := by
      have ef : flipP = fun x => sel (Nat.beq x 40) 41 40 := by
        funext x
        unfold flipP
        rw [sel_ite, nbeq]
      rw [← appF_eq, ← mapF_eq, gapF_eq, ef]
      simp
    rw [e, checkPF_eq, sel_ite]
    split
    · have := szGoF_eq text pl r (appF pre [last]) 1
      rw [← this, ← appF_eq]
      simp [ofN]
    · exact szGoF_eq text pl r pre (last + 1)
def plF (text : Tx) : List Nat := posF (fun x => sel (Nat.beq x 40) false (sel (Nat.beq x 41) false true)) text 0
theorem plF_eq (text : Tx) : letPl text = plF text := by
  unfold letPl plF
  rw [← posF_eq _ text text 0 rfl, ← notP_eq] <;> congr 1
/-- of five letters -/
def sizF (text : Tx) : List Nat := szGoF text (plF text) [1, 2, 3, 4] [] 1
theorem sizF_eq (text : Tx) (h : (letPl text).length = 5) : sizesF text = ofN (sizF text) := by
  unfold sizesF sizF
  rw [h, plF_eq]
  exact szGoF_eq text (plF text) [1, 2, 3, 4] [] 1
def eqO (a b : Option Nat) : Bool := Option.rec (motive := fun _ => Bool) (Option.rec (motive := fun _ => Bool) true (fun _ => false) b) (fun x => Option.rec (motive := fun _ => Bool) false (fun y => Nat.beq x y) b) a
theorem eqO_eq (a b : Option Nat) : (a.map Int.ofNat == b.map Int.ofNat) = eqO a b := by
  cases a <;> cases b <;> try rfl
  rename_i x y
  show (some (Int.ofNat x) == some (Int.ofNat y)) = Nat.beq x y
  rw [nbeq, Bool.eq_iff_iff]
  simp
  omega
def rkF (sizes : List Nat) (k : Nat) : Nat := Nat.rec (motive := fun _ => Nat) 0 (fun k ih => sel (Nat.ble 1 k) (sel (eqO (nthF sizes (Nat.sub k 1)) (nthF sizes k)) ih (Nat.add k 1)) (Nat.add k 1)) k
theorem rkF_eq (sizes : List Nat) : ∀ k, rulK (ofN sizes) k = rkF sizes k
  | 0 => rfl
  | k + 1 => by
    show _ = sel (Nat.ble 1 k) (sel (eqO (nthF sizes (k - 1)) (nthF sizes k)) (rkF sizes k) (k + 1)) (k + 1)
    unfold rulK
    rw [rkF_eq sizes k, sel_ite, sel_ite, nble, ← nthF_eq, ← nthF_eq, ← eqO_eq, ite_and2, ofN, List.getElem?_map, List.getElem?_map]
    have : decide (1 < k + 1) = decide (1 ≤ k) := by rw [Bool.eq_iff_iff]; simp; omega
    rw [this]
/-- the ruler and what is due, by the form -/
def rlF (sizes : List Nat) (form : Nat) : List Nat × List Nat := Nat.rec (motive := fun _ => List Nat × List Nat) (appF sizes [127, 4], sizes)
  (fun f _ => Nat.rec (motive := fun _ => List Nat × List Nat) (appF (initF sizes) [127, 4], initF sizes) (fun g _ => Nat.rec (motive := fun _ => List Nat × List Nat) (initF sizes, initF sizes)
    (fun _ _ => (appF (takeF (rkF sizes (lenF sizes)) sizes) [0, 4], takeF 7 (appF sizes (repF 7 (lastF sizes 0))))) g) f) form
theorem last_ofN (l : List Nat) : (ofN l).getLastD 0 = ((l.getLastD 0 : Nat) : Int) := by
  cases l with
  | nil => rfl
  | cons a r =>
    show ((a :: r).map Int.ofNat).getLast _ = (((a :: r).getLast _ : Nat) : Int)
    rw [List.getLast_map]; rfl
theorem rlF_eq (sizes : List Nat) (form : Nat) (hf : form < 4) : rulF (ofN sizes) form = (ofN (rlF sizes form).1, ofN (rlF sizes form).2) := by
  match form, hf with
  | 0, _ =>
    show (ofN sizes ++ [127, 4], ofN sizes) = (ofN (appF sizes [127, 4]), ofN sizes)
    rw [← appF_eq]; simp [ofN]
  | 1, _ =>
    show ((ofN sizes).dropLast ++ [127, 4], (ofN sizes).dropLast) = (ofN (appF (initF sizes) [127, 4]), ofN (initF sizes))
    rw [← appF_eq, ← initF_eq]; simp [ofN]
  | 2, _ =>
    show ((ofN sizes).dropLast, (ofN sizes).dropLast) = (ofN (initF sizes), ofN (initF sizes))
    rw [← initF_eq]; simp [ofN]
  | 3, _ =>
    show ((ofN sizes).take (rulK (ofN sizes) (ofN sizes).length) ++ [0, 4], (ofN sizes ++ List.replicate 7 ((ofN sizes).getLastD 0)).take 7) = (ofN (appF (takeF (rkF sizes (lenF sizes)) sizes) [0, 4]), ofN (takeF 7 (appF sizes (repF 7 (lastF sizes 0)))))
    rw [← appF_eq, ← appF_eq, ← takeF_eq, ← takeF_eq, ← repF_eq, ← lastF_eq, ← lenF_eq, ← rkF_eq, last_ofN]
    have : (ofN sizes).length = sizes.length := by simp [ofN]
    rw [this]
    simp [ofN]
def grpF (gs : List Nat) : Nat → Option Nat → Option (List Nat × Bool) := List.rec (motive := fun _ => Nat → Option Nat → Option (List Nat × Bool)) (fun _ _ => some ([], true))
  (fun x _ ih need last => sel (Nat.beq x 127) (some ([], true)) (sel (Nat.beq x 0) (Option.rec (motive := fun _ => Option (List Nat × Bool)) none (fun l => Nat.rec (motive := fun _ => Option (List Nat × Bool)) none (fun n _ => some (repF (Nat.add n 1) l, false)) need) last)
    (Option.rec (motive := fun _ => Option (List Nat × Bool)) none (fun p => some (x :: p.1, p.2)) (ih (Nat.sub need 1) (some x))))) gs
theorem grpF_eq : ∀ (gs : List Nat) (need : Nat) (last : Option Nat), grpX need (last.map Int.ofNat) (ofN gs) = (grpF gs need last).map fun p => (ofN p.1, p.2)
  | [], need, last => rfl
  | x :: t, need, last => by
    show grpX need (last.map Int.ofNat) (Int.ofNat x :: ofN t) = Option.map _ (sel (Nat.beq x 127) (some ([], true)) (sel (Nat.beq x 0) (Option.rec (motive := fun _ => Option (List Nat × Bool)) none (fun l => Nat.rec (motive := fun _ => Option (List Nat × Bool)) none (fun n _ => some (repF (Nat.add n 1) l, false)) need) last)
      (Option.rec (motive := fun _ => Option (List Nat × Bool)) none (fun p => some (x :: p.1, p.2)) (grpF t (need - 1) (some x)))))
    unfold grpX
    have e1 : ((Int.ofNat x) == 127) = Nat.beq x 127 := by
      rw [nbeq, Bool.eq_iff_iff, beq_iff_eq, beq_iff_eq]
      show ((x : Int) = 127) ↔ _
      omega
    have e2 : ((Int.ofNat x) == 0) = Nat.beq x 0 := by
      rw [nbeq, Bool.eq_iff_iff, beq_iff_eq, beq_iff_eq]
      show ((x : Int) = 0) ↔ _
      omega
    have ih := grpF_eq t (need - 1) (some x)
    rw [e1, e2, sel_ite, sel_ite]
    split
    · rfl
    · split
      · cases last with
        | none => rfl
        | some l =>
          cases need with
          | zero => rfl
          | succ n =>
            show some (List.replicate (n + 1) (Int.ofNat l), false) = some (ofN (repF (n + 1) l), false)
            rw [← repF_eq]; simp [ofN]
      · rw [show some (Int.ofNat x) = (some x).map Int.ofNat from rfl, ih]
        cases grpF t (need - 1) (some x) with
        | none => rfl
        | some p => rfl
def cgF (xs : List Nat) : Tx → List Nat → List Tx → List Nat × List Tx × Tx := List.rec (motive := fun _ => Tx → List Nat → List Tx → List Nat × List Tx × Tx) (fun row told pieces => (told, pieces, row))
  (fun x _ ih row told pieces => sel (Nat.beq (lenF told) 6) (appF told [x], appF pieces [dropF (sel (Nat.beq x 0) 0 (Nat.sub (lenF row) x)) row], takeF (sel (Nat.beq x 0) 0 (Nat.sub (lenF row) x)) row)
    (ih (takeF (sel (Nat.beq x 0) 0 (Nat.sub (lenF row) x)) row) (appF told [x]) (appF pieces [dropF (sel (Nat.beq x 0) 0 (Nat.sub (lenF row) x)) row]))) xs
theorem slc_neg (row : Tx) (x : Nat) : slc row (some (-(Int.ofNat x))) none = row.drop (if x = 0 then 0 else row.length - x) ∧ slc row none (some (-(Int.ofNat x))) = row.take (if x = 0 then 0 else row.length - x) := by
  have hc : ∀ d, clip d (some (-(Int.ofNat x))) row.length = if x = 0 then 0 else row.length - x := fun d => by
    unfold clip
    show min (if (-(x : Int)) < 0 then -(x : Int) + row.length else -(x : Int)).toNat row.length = _
    by_cases h : x = 0
    · subst h; simp
    · rw [if_neg h, if_pos (by omega)]; omega
  unfold slc
  rw [hc, hc]
  constructor
  · show (row.drop _).take (row.length - _) = _
    rw [List.take_of_length_le]
    rw [List.length_drop]; exact Nat.le_refl _
  · show (row.drop 0).take (_ - 0) = _
    rw [List.drop_zero, Nat.sub_zero]
theorem cgF_eq : ∀ (xs : List Nat) (row : Tx) (told : List Nat) (pieces : List Tx), cutGo (ofN xs) row (ofN told) pieces = (ofN (cgF xs row told pieces).1, (cgF xs row told pieces).2)
  | [], row, told, pieces => rfl
  | x :: r, row, told, pieces => by
    have h1 := slc_neg row x
    have e : (if x = 0 then 0 else row.length - x) = sel (Nat.beq x 0) 0 (Nat.sub (lenF row) x) := by
      rw [sel_ite, nbeq, ← lenF_eq]
      by_cases h : x = 0 <;> simp [h]
    rw [e] at h1
    have hd : cgF (x :: r) row told pieces = sel (Nat.beq (lenF told) 6) (appF told [x], appF pieces [dropF (sel (Nat.beq x 0) 0 (Nat.sub (lenF row) x)) row], takeF (sel (Nat.beq x 0) 0 (Nat.sub (lenF row) x)) row)
      (cgF r (takeF (sel (Nat.beq x 0) 0 (Nat.sub (lenF row) x)) row) (appF told [x]) (appF pieces [dropF (sel (Nat.beq x 0) 0 (Nat.sub (lenF row) x)) row])) := rfl
    have ht : ofN told ++ [Int.ofNat x] = ofN (appF told [x]) := by rw [← appF_eq]; simp [ofN]
    clear e
    generalize sel (Nat.beq x 0) 0 (Nat.sub (lenF row) x) = d at *
    show cutGo (Int.ofNat x :: ofN r) row (ofN told) pieces = _
    rw [hd]
    unfold cutGo
    rw [h1.1, h1.2, ht, takeF_eq, dropF_eq, appF_eq, cgF_eq r, sel_ite, nbeq, ← lenF_eq, show (ofN told).length = told.length from by simp [ofN]]
    split <;> rfl
def okP (p word : Tx) : Bool := ellMF (46 :: 46 :: 46 :: appF (flatF (mapF (fun x => x :: 46 :: 46 :: 46 :: []) p)) []) word
def inF1 (piece word : Tx) : Bool := ellMF (sel (empF piece) [46, 46, 46, 46, 46, 46] (46 :: 46 :: 46 :: flatF (mapF (fun x => x :: 46 :: 46 :: 46 :: []) piece))) word
def inF2 (piece word : Tx) : Bool := eqT (strQF (34 :: 92 :: 34 :: 34 :: appF (flatF (mapF (fun x => sel (memF x piece) [x] [34, x, 34]) word)) [34])) (appF piece [34])
theorem join_dots : ∀ (piece : Tx), dots ++ joinT dots (oneL piece) ++ dots = sel (empF piece) [46, 46, 46, 46, 46, 46] (46 :: 46 :: 46 :: flatF (mapF (fun x => x :: 46 :: 46 :: 46 :: []) piece))
  | [] => rfl
  | x :: r => by
    have key : ∀ (r : Tx) (a : Tx), (oneL r).foldl (fun acc p => acc ++ dots ++ p) a ++ dots = a ++ dots ++ (r.map fun x => x :: 46 :: 46 :: 46 :: []).flatten := by
      intro r
      induction r with
      | nil => intro a; simp [oneL]
      | cons y r ih =>
        intro a
        show (oneL r).foldl (fun acc p => acc ++ dots ++ p) (a ++ dots ++ [y]) ++ dots = _
        rw [ih]
        simp [dots]
    show dots ++ (oneL r).foldl (fun acc p => acc ++ dots ++ p) [x] ++ dots = 46 :: 46 :: 46 :: flatF (mapF (fun x => x :: 46 :: 46 :: 46 :: []) (x :: r))
    rw [List.append_assoc, key, ← mapF_eq, ← flatF_eq]
    simp [dots]
theorem inF_eq (piece word : Tx) : inOrd piece word = if (inF1 piece word == inF2 piece word) = true then some (inF1 piece word) else none := by
  have e1 : ellM (dots ++ joinT dots (oneL piece) ++ dots) word = inF1 piece word := by
    unfold inF1
    rw [ellMF_eq, join_dots]
  have e2 : (stripQ ([34, 92, 34, 34] ++ joinT [] (word.map (markP piece)) ++ [34]) == piece ++ [34]) = inF2 piece word := by
    unfold inF2
    rw [eqT_eq, strQF_eq, joinT_nil, ← mapF_eq, ← flatF_eq, ← appF_eq, ← appF_eq]
    have em : markP piece = fun x => sel (memF x piece) [x] [34, x, 34] := by
      funext x
      unfold markP
      rw [subOne, sel_ite]
    rw [em]
    simp
  unfold inOrd
  rw [e1, e2]
end
end Mine
namespace Mine

noncomputable section
def upF {α : Type} (l : List α) : Nat → List Nat := List.rec (motive := fun _ => Nat → List Nat) (fun _ => []) (fun _ _ ih i => i :: ih (Nat.add i 1)) l
theorem upF_eq {α : Type} : ∀ (l : List α) (i : Nat), List.range' i l.length = upF l i
  | [], i => rfl
  | x :: t, i => by
    rw [List.length_cons, List.range'_succ, upF_eq t (i + 1)]; rfl
def jnF (pieces : List Tx) : List Tx := mapF (fun k => appF (nthD pieces (Nat.add k 1) []) (nthD pieces k [])) (upF (tailF pieces) 0)
theorem jnF_eq (pieces : List Tx) : joinedOf pieces = jnF pieces := by
  unfold joinedOf jnF
  rw [← mapF_eq, ← upF_eq, ← tailF_eq, List.length_tail]
  apply List.map_congr_left
  intro k _
  rw [nthD_eq, nthD_eq, appF_eq]
def tpF (text letters : Tx) : Tx := mapF (fun k => nthD text k 0) (filtF (fun k => Option.rec (motive := fun _ => Bool) false (fun x => sel (memF x letters) (checkPF (slF text 1 k)) false) (nthF text k)) R014)
theorem cont_mem (letters : Tx) (x : Nat) : (oneL letters).contains [x] = memF x letters := by
  rw [Bool.eq_iff_iff, memF_iff, List.contains_iff_mem, oneL, List.mem_map]
  constructor
  · rintro ⟨a, ha, e⟩
    have : a = x := by simpa using e
    exact this ▸ ha
  · intro h; exact ⟨x, h, rfl⟩
theorem tpF_eq (text letters : Tx) : topsOf text letters = tpF text letters := by
  unfold topsOf tpF
  rw [← mapF_eq, ← filtF_eq]
  have e1 : (fun k => text.getD k 0) = fun k => nthD text k 0 := by funext k; exact nthD_eq text k 0
  rw [e1]
  show List.map _ (List.filter _ R014) = _
  congr 2
  funext k
  rw [← nthF_eq]
  cases text[k]? with
  | none => rfl
  | some x =>
    show ((oneL letters).contains [x] && checkP (slcN text 1 k)) = sel (memF x letters) (checkPF (slF text 1 k)) false
    rw [sel_and, cont_mem, checkPF_eq, slF_eq]
def rwF (text letters : Tx) : Tx := filtF (fun x => memF x letters) text
theorem rwF_eq (text letters : Tx) : rowOf text letters = rwF text letters := by
  unfold rowOf rwF
  rw [← filtF_eq]
  congr 1
  funext x
  exact cont_mem letters x
def ecF (word : Tx) (c : Nat) (b : Bool) : Bool := sel (ellMF (appF (takeF c word) (46 :: 46 :: 46 :: dropF 2 word)) word) b (sel b false true)
def ecG (word : Tx) (c : Nat) (b : Bool) : Bool := sel (ellMF (46 :: 46 :: 46 :: appF (takeF c word) (46 :: 46 :: 46 :: appF (dropF 2 word) [46, 46, 46])) word) b (sel b false true)
theorem bsel (a b : Bool) : (a == b) = sel a b (sel b false true) := by cases a <;> cases b <;> rfl
theorem ec_eq (word : Tx) (c : Nat) : endCut word c = (!(ecF word c (Nat.beq c 2)) || !(ecG word c (Nat.beq c 2))) := by
  unfold endCut ecF ecG
  rw [← bsel, ← bsel, nbeq, ellMF_eq, ellMF_eq, ← appF_eq, ← takeF_eq, ← dropF_eq, ← appF_eq, ← appF_eq]
  simp [dots]
def ezF (word : Tx) (a b z : Nat) : Bool := sel (ellMF [a, 46, 46, 46, z, 46, 46, 46, b] word) (memF z (slF word 1 4)) (sel (memF z (slF word 1 4)) false true)
theorem ez_eq (word : Tx) (a b z : Nat) : endZ word a b z = !(ezF word a b z) := by
  unfold endZ ezF
  rw [← bsel, ellMF_eq, subOne, slF_eq]
  rfl
def enF (word : Tx) : Bool := sel (ecF word 2 true) (sel (ecG word 2 true) (sel (ecF word 3 false) (sel (ecG word 3 false) (sel (allF (ezF word (nthD word 0 0) (nthD word 4 0)) word)
  (allF (fun part => sel (ellMF part word) false (sel (ellMF word part) false true)) [takeF 4 word, dropF 1 word]) false) false) false) false) false
theorem enF_ok (word : Tx) (h : enF word = true) : endsF word = true := by
  unfold enF at h
  simp only [sel_and, Bool.and_eq_true] at h
  obtain ⟨h1, h2, h3, h4, h5, h6⟩ := h
  unfold endsF
  rw [ec_eq, ec_eq, show Nat.beq 2 2 = true from rfl, show Nat.beq 3 2 = false from rfl, h1, h2, h3, h4]
  rw [if_neg (by decide)]
  rw [← allF_eq, List.all_eq_true] at h5
  rw [if_neg]
  · rw [← allF_eq] at h6
    simp only [List.all_cons, List.all_nil, Bool.and_true, Bool.and_eq_true, ← takeF_eq, ← dropF_eq, ← ellMF_eq] at h6
    have e : ∀ a b : Bool, sel a false (sel b false true) = !(a || b) := fun a b => by cases a <;> cases b <;> rfl
    rw [e, e] at h6
    simp only [Bool.not_eq_true'] at h6
    simp only [List.filter_cons, h6.1, h6.2]
    rfl
  · intro hc
    obtain ⟨z, hz, hq⟩ := List.any_eq_true.mp hc
    rw [nthD_eq, nthD_eq, ez_eq, h5 z hz] at hq
    cases hq

def frF (word text : Tx) (l : Tx) : Bool := List.rec (motive := fun _ => Bool) false (fun f t _ => sel (empF t) (sel (subF [40, f, 41] text) (checkPF [40, 34, 41, 34, f, 92, 41, 41]) false) false) l
def comF (word letters text least : Tx) : Bool := Option.rec (motive := fun _ => Bool) false (fun words =>
  sel (Nat.beq (Nat.mul (lenF words) (prodFF text)) 120) (sel (allF (fun one => sel (eqT (grF 5 one).1 text) (eqT (grF 5 one).2 least) false) words) (sel (eqTT (filtF (fun one => ltF least one) words) (tailF words))
  (sel (eqTT (filtF (fun one => eqT one word) words) [word]) (sel (eqT (filtF (fun z => ltF word [z]) letters) (filtF (fun z => Nat.ble (Nat.succ (nthD word 0 0)) z) letters)) (sel (eqTT (filtF (fun one => ellMF word one) words) [word])
  (sel (enF word) (sel (eqT (filtF (fun z => ellMF [46, 46, 46, z] word) letters) (tpF text letters)) (frF word text (filtF (fun z => ellMF [z, 46, 46, 46] word) letters)) false) false) false) false) false) false) false) false)
  (wRnF letters 25 [least] 0)
theorem comF_ok (word : Tx) (hl : word.length = 5) (ho : okT word) (h : comF word (letsF word) (grF 5 word).1 (grF 5 word).2 = true) : lawCom word = true := by
  have gl := grownF_len 5 word (by omega)
  have gm := grownF_mem 5 word
  unfold lawCom
  simp only
  rw [wRnF_eq _ _ _ _ (fun x hx => by rw [List.mem_singleton.mp hx]; exact ⟨by omega, fun y hy => ho y (gm.2 y hy)⟩), letsF_eq, grF_eq]
  unfold comF at h
  cases hw : wRnF (letsF word) 25 [(grF 5 word).2] 0 with
  | none => rw [hw] at h; cases h
  | some words =>
    rw [hw] at h
    simp only [sel_and, Bool.and_eq_true] at h
    obtain ⟨c1, c2, c3, c4, c5, c6, c7, c8, c9⟩ := h
    simp only [Bool.and_eq_true]
    refine ⟨⟨⟨⟨⟨⟨⟨⟨?_, ?_⟩, ?_⟩, ?_⟩, ?_⟩, ?_⟩, ?_⟩, ?_⟩, ?_⟩
    · rw [lenF_eq, prodFF_eq, ← nbeq]; exact c1
    · rw [List.all_eq_true]
      rw [← allF_eq, List.all_eq_true] at c2
      intro one h1
      have := c2 one h1
      rw [Bool.and_eq_true, eqT_iff, eqT_iff] at this
      rw [grF_eq, beq_iff_eq]
      exact Prod.ext this.1 this.2
    · rw [eqTT_eq, filtF_eq, tailF_eq]
      have e : (fun one => collI (grF 5 word).2 one == -1 && collI one (grF 5 word).2 == 1) = fun one => ltF (grF 5 word).2 one := by
        funext one; rw [coll_m1, coll_p1, Bool.and_self]
      rw [e]; exact c3
    · rw [eqTT_eq, filtF_eq]
      have e : (fun one => collI one word == 0) = fun one => eqT one word := by funext one; rw [coll_0]
      rw [e]; exact c4
    · rw [eqT_eq, filtF_eq, filtF_eq]
      have e1 : (fun z => collI word [z] == -1) = fun z => ltF word [z] := by funext z; rw [coll_m1]
      have e2 : (fun z => decide (word.getD 0 0 < z)) = fun z => Nat.ble (Nat.succ (nthD word 0 0)) z := by funext z; rw [nblt, nthD_eq]
      rw [e1, e2]; exact c5
    · rw [eqTT_eq, filtF_eq]
      have e : (fun one => ellM word one) = fun one => ellMF word one := by funext one; rw [ellMF_eq]
      rw [e]; exact c6
    · exact enF_ok word c7
    · rw [eqT_eq, filtF_eq, tpF_eq]
      have e : (fun z => ellM (dots ++ [z]) word) = fun z => ellMF [46, 46, 46, z] word := by funext z; rw [ellMF_eq]; rfl
      rw [e]; exact c8
    · rw [filtF_eq]
      have e : (fun z => ellM ([z] ++ dots) word) = fun z => ellMF [z, 46, 46, 46] word := by funext z; rw [ellMF_eq]; rfl
      rw [e]
      revert c9
      cases filtF (fun z => ellMF [z, 46, 46, 46] word) (letsF word) with
      | nil => intro c; cases c
      | cons f t =>
        cases t with
        | cons _ _ => intro c; cases c
        | nil =>
          intro c
          have c' : sel (subF [40, f, 41] (grF 5 word).1) (checkPF [40, 34, 41, 34, f, 92, 41, 41]) false = true := c
          rw [sel_and] at c'
          show (subIn [40, f, 41] (grF 5 word).1 && checkP ([40, 34, 41, 34] ++ [f] ++ [92, 41, 41])) = true
          rw [subF_eq, checkPF_eq]
          exact c'
def cutFF (row : Tx) (xs : List Nat) : List Nat × List Tx := ((cgF xs row [] []).1, filtF (fun p => sel (empF p) false true) (appF (cgF xs row [] []).2.1 [(cgF xs row [] []).2.2]))
theorem cutFF_eq (row : Tx) (xs : List Nat) : cutF row (ofN xs) = (ofN (cutFF row xs).1, (cutFF row xs).2) := by
  have h := cgF_eq xs row [] []
  have h' : cutGo (ofN xs) row [] [] = _ := h
  unfold cutF cutFF
  rw [h', filtF_eq, appF_eq]
  have e : (fun p : Tx => !p.isEmpty) = fun p => sel (empF p) false true := by
    funext p; rw [empF_eq]; cases empF p <;> rfl
  rw [e]
def foF (word row : Tx) (sizes : List Nat) (form : Nat) : Bool := Option.rec (motive := fun _ => Bool) false (fun p => sel (sel p.2 true (Nat.ble 7 (lenF p.1))) (sel (eqT (cutFF row p.1).1 (rlF sizes form).2)
  (sel (allF (fun p => sel (inF1 p word) (inF2 p word) false) (cutFF row p.1).2) (allF (fun p => sel (inF1 p word) false (sel (inF2 p word) false true)) (jnF (cutFF row p.1).2)) false) false) false) (grpF (rlF sizes form).1 7 none)
theorem foF_ok (word : Tx) (form : Nat) (hf : form < 4) (hp : lenF (plF (grF 5 word).1) = 5) (hs : empF (sizF (grF 5 word).1) = false) (h : foF word (rwF (grF 5 word).1 (letsF word)) (sizF (grF 5 word).1) form = true) : lawForm word form = true := by
  unfold lawForm
  simp only
  rw [grF_eq, letsF_eq, rwF_eq, sizF_eq _ (by rw [plF_eq, lenF_eq]; exact hp)]
  generalize sizF (grF 5 word).1 = sizes at *
  generalize rwF (grF 5 word).1 (letsF word) = row at *
  rw [rlF_eq sizes form hf]
  simp only
  have hg := grpF_eq (rlF sizes form).1 7 none
  rw [Option.map_none] at hg
  rw [hg]
  unfold foF at h
  cases hx : grpF (rlF sizes form).1 7 none with
  | none => rw [hx] at h; cases h
  | some p =>
    rw [hx] at h
    simp only [sel_and, Bool.and_eq_true] at h
    obtain ⟨f1, f3, f4, f5⟩ := h
    simp only [Option.map_some, Bool.and_eq_true]
    rw [cutFF_eq]
    simp only
    refine ⟨⟨⟨⟨?_, ?_⟩, ?_⟩, ?_⟩, ?_⟩
    · rw [sel_or, nble, ← lenF_eq] at f1
      have : (ofN p.1).length = p.1.length := by simp [ofN]
      rw [this]; exact f1
    · rw [decide_eq_true_eq]
      intro e
      have : sizes = [] := by
        cases sizes with
        | nil => rfl
        | cons => cases e
      rw [this] at hs; cases hs
    · rw [eqT_iff] at f3
      rw [f3, beq_iff_eq]
    · rw [List.all_eq_true]
      rw [← allF_eq, List.all_eq_true] at f4
      intro q hq
      have := f4 q hq
      rw [Bool.and_eq_true] at this
      rw [inF_eq, this.1, this.2]; rfl
    · rw [List.all_eq_true, jnF_eq]
      rw [← allF_eq, List.all_eq_true] at f5
      intro q hq
      have := f5 q hq
      rw [inF_eq]
      cases h1 : inF1 q word with
      | true => rw [h1] at this; cases this
      | false =>
        rw [h1] at this
        cases h2 : inF2 q word with
        | true => rw [h2] at this; cases this
        | false => rfl
def lawG (word text least letters : Tx) (sizes : List Nat) (row : Tx) : Bool := sel (comF word letters text least) (sel (Nat.beq (lenF (plF text)) 5) (sel (empF sizes) false (sel (foF word row sizes 0) (sel (foF word row sizes 1) (sel (foF word row sizes 2) (foF word row sizes 3) false) false) false)) false) false
def lawBF (word : Tx) : Bool := lawG word (grF 5 word).1 (grF 5 word).2 (letsF word) (sizF (grF 5 word).1) (rwF (grF 5 word).1 (letsF word))
theorem lawBF_ok (word : Tx) (hl : word.length = 5) (ho : okT word) (h : lawBF word = true) : lawB word = true := by
  unfold lawBF lawG at h
  simp only [sel_and, Bool.and_eq_true] at h
  obtain ⟨h1, h2, h3⟩ := h
  have hs : empF (sizF (grF 5 word).1) = false := by
    cases e : empF (sizF (grF 5 word).1) with
    | false => rfl
    | true => rw [e] at h3; cases h3
  rw [hs] at h3
  have h3' : (foF word (rwF (grF 5 word).1 (letsF word)) (sizF (grF 5 word).1) 0 && (foF word (rwF (grF 5 word).1 (letsF word)) (sizF (grF 5 word).1) 1 && (foF word (rwF (grF 5 word).1 (letsF word)) (sizF (grF 5 word).1) 2 && foF word (rwF (grF 5 word).1 (letsF word)) (sizF (grF 5 word).1) 3))) = true := h3
  simp only [Bool.and_eq_true] at h3'
  obtain ⟨k0, k1, k2, k3⟩ := h3'
  rw [Nat.beq_eq] at h2
  unfold lawB
  rw [comF_ok word hl ho h1, foF_ok word 0 (by decide) h2 hs k0, foF_ok word 1 (by decide) h2 hs k1, foF_ok word 2 (by decide) h2 hs k2, foF_ok word 3 (by decide) h2 hs k3]
  rfl
end
end Mine
namespace Mine

noncomputable section
def R5 : List Nat := [97, 98, 99, 100, 101]
def denF (l : Tx) : Bool := allF (fun x => sel (Nat.beq x 97) true (memF (Nat.sub x 1) l)) l
theorem denF_eq (l : Tx) : dense l = denF l := by
  unfold dense denF
  rw [← allF_eq]
  congr 1
  funext x
  rw [sel_or, nbeq, Bool.eq_iff_iff, Bool.or_eq_true, Bool.or_eq_true, memF_iff, List.contains_iff_mem]
  rfl
def tab (a b : Nat) : Bool := allF (fun c => allF (fun d => allF (fun e => sel (denF [a, b, c, d, e]) (lawBF [a, b, c, d, e]) true) R5) R5) R5
theorem tab_aa : tab 97 97 = true := by decide +kernel
theorem tab_ab : tab 97 98 = true := by decide +kernel
theorem tab_ac : tab 97 99 = true := by decide +kernel
theorem tab_ad : tab 97 100 = true := by decide +kernel
theorem tab_ae : tab 97 101 = true := by decide +kernel
theorem tab_ba : tab 98 97 = true := by decide +kernel
theorem tab_bb : tab 98 98 = true := by decide +kernel
theorem tab_bc : tab 98 99 = true := by decide +kernel
theorem tab_bd : tab 98 100 = true := by decide +kernel
theorem tab_be : tab 98 101 = true := by decide +kernel
theorem tab_ca : tab 99 97 = true := by decide +kernel
theorem tab_cb : tab 99 98 = true := by decide +kernel
theorem tab_cc : tab 99 99 = true := by decide +kernel
theorem tab_cd : tab 99 100 = true := by decide +kernel
theorem tab_ce : tab 99 101 = true := by decide +kernel
theorem tab_da : tab 100 97 = true := by decide +kernel
theorem tab_db : tab 100 98 = true := by decide +kernel
theorem tab_dc : tab 100 99 = true := by decide +kernel
theorem tab_dd : tab 100 100 = true := by decide +kernel
theorem tab_de : tab 100 101 = true := by decide +kernel
theorem tab_ea : tab 101 97 = true := by decide +kernel
theorem tab_eb : tab 101 98 = true := by decide +kernel
theorem tab_ec : tab 101 99 = true := by decide +kernel
theorem tab_ed : tab 101 100 = true := by decide +kernel
theorem tab_ee : tab 101 101 = true := by decide +kernel
theorem mem_R5 (x : Nat) (h : 97 ≤ x ∧ x < 102) : x ∈ R5 := by
  have : x = 97 ∨ x = 98 ∨ x = 99 ∨ x = 100 ∨ x = 101 := by omega
  rcases this with rfl | rfl | rfl | rfl | rfl <;> decide
theorem tab_all (a b : Nat) (ha : 97 ≤ a ∧ a < 102) (hb : 97 ≤ b ∧ b < 102) : tab a b = true := by
  have h1 : a = 97 ∨ a = 98 ∨ a = 99 ∨ a = 100 ∨ a = 101 := by omega
  have h2 : b = 97 ∨ b = 98 ∨ b = 99 ∨ b = 100 ∨ b = 101 := by omega
  rcases h1 with rfl | rfl | rfl | rfl | rfl
  · rcases h2 with rfl | rfl | rfl | rfl | rfl
    · exact tab_aa
    · exact tab_ab
    · exact tab_ac
    · exact tab_ad
    · exact tab_ae
  · rcases h2 with rfl | rfl | rfl | rfl | rfl
    · exact tab_ba
    · exact tab_bb
    · exact tab_bc
    · exact tab_bd
    · exact tab_be
  · rcases h2 with rfl | rfl | rfl | rfl | rfl
    · exact tab_ca
    · exact tab_cb
    · exact tab_cc
    · exact tab_cd
    · exact tab_ce
  · rcases h2 with rfl | rfl | rfl | rfl | rfl
    · exact tab_da
    · exact tab_db
    · exact tab_dc
    · exact tab_dd
    · exact tab_de
  · rcases h2 with rfl | rfl | rfl | rfl | rfl
    · exact tab_ea
    · exact tab_eb
    · exact tab_ec
    · exact tab_ed
    · exact tab_ee
theorem lawB_pat (st : Tx) (hl : st.length = 5) (hb : ∀ x ∈ st, 97 ≤ x ∧ x < 102) (hd : dense st = true) : lawB st = true := by
  match st, hl with
  | [a, b, c, d, e], _ =>
    have h := tab_all a b (hb a (by simp)) (hb b (by simp))
    unfold tab at h
    rw [← allF_eq, List.all_eq_true] at h
    have h := h c (mem_R5 c (hb c (by simp)))
    rw [← allF_eq, List.all_eq_true] at h
    have h := h d (mem_R5 d (hb d (by simp)))
    rw [← allF_eq, List.all_eq_true] at h
    have h := h e (mem_R5 e (hb e (by simp)))
    rw [← denF_eq, hd] at h
    exact lawBF_ok _ rfl (fun x hx => by have := hb x hx; omega) h
theorem lawB_all (w : Tx) (hl : w.length = 5) (hw : ∀ x ∈ w, 97 ≤ x ∧ x < 123) : lawB w = true := by
  obtain ⟨φ, st, R, e, h1, h2, h3⟩ := patt w hw
  rw [hl] at h1 h2
  rw [e, lawB_map R st h1]
  exact lawB_pat st h1 h2 h3
end
end Mine
namespace Mine

theorem law1_true (scr : List Int) : ∃ form x5, (numsOf scr)[5]? = some x5 ∧ x5.fmod 4 = ((form : Nat) : Int) ∧ form < 4 ∧ lawCom (wordOf (numsOf scr)) = true ∧ lawForm (wordOf (numsOf scr)) form = true := by
  have hl := numsOf_len scr
  generalize numsOf scr = nums at *
  have hx : nums[5]? = some nums[5] := List.getElem?_eq_getElem (by omega)
  have h1 := Int.fmod_nonneg_of_pos nums[5] (show (0 : Int) < 4 by decide)
  have h2 := Int.fmod_lt_of_pos nums[5] (show (0 : Int) < 4 by decide)
  have hb := lawB_all (wordOf nums) (by unfold wordOf; rw [List.length_map, List.length_take]; omega) (wordOf_ok nums)
  unfold lawB at hb
  simp only [Bool.and_eq_true] at hb
  obtain ⟨⟨⟨⟨b0, b1⟩, b2⟩, b3⟩, b4⟩ := hb
  refine ⟨(nums[5].fmod 4).toNat, nums[5], hx, by omega, by omega, b0, ?_⟩
  have : (nums[5].fmod 4).toNat < 4 := by omega
  generalize (nums[5].fmod 4).toNat = f at *
  match f, this with
  | 0, _ => exact b1
  | 1, _ => exact b2
  | 2, _ => exact b3
  | 3, _ => exact b4
theorem reps_ints {Z : Addr → Prop} {h : Heap} : ∀ {vs : List Value} {is : List Int}, IntsAre vs is → Reps Z h (its is) vs
  | _, _, .nil => by simp [its, Reps]
  | _, _, .cons n t r => by
    simp only [its, List.map_cons, Reps]
    exact ⟨_, _, rfl, ⟨t, rfl⟩, reps_ints r⟩
theorem enter {G : Gc} {fa l : Addr} {vs : List Value} {is : List Int} {s : Shared} (n : Nat) (hn : n ≤ 600) (hf : Fn G n "law" [.list (its is)] (.bool true)) (hmg : G.mg "law" = some (.ref fa))
    (hL : s.heap.IsList l vs.toArray) (hI : IntsAre vs is) (hb : ∀ b o, G.base.get? b = some o → s.heap.get? b = some o) (hg : s.gens = #[]) {Q : Value → Shared → Prop} {E : Value → Shared → Prop}
    (h : ∀ s', (∀ b o, s.heap.get? b = some o → s'.heap.get? b = some o) → s'.os = s.os → AllBare s'.gens → Q (.bool true) s') : wpAny (model G.prog G.w) callerA (call (.ref fa) [.ref l]) Q E s := by
  have hbare : AllBare s.gens := AllBare.of_eq hg
  refine hf fa hmg callerA (fun b => b = l) s [.ref l] Q E ⟨rfl, ?_, ?_⟩ ⟨hb, hbare⟩ (fun b e => ?_) ?_ fun r s' Z' e z rr => ?_
  · show 1 + claimMargin + n < 1000
    unfold claimMargin
    omega
  · show 4 + 8 * n + 100 < 9900
    omega
  · subst e
    obtain ⟨o, ho, _⟩ := hL
    exact ⟨o, ho⟩
  · simp only [Reps, Rep]
    exact ⟨_, _, rfl, ⟨l, vs, rfl, rfl, hL, reps_ints hI⟩, rfl⟩
  · simp only [Rep] at rr
    subst rr
    exact h s' e.keep' e.os (e.bare hbare)
def nbOk (p : Program) (loose : List Str) : Bool := usedB.all fun x => decide (x ∉ startupNames ∧ x ∉ loose ∧ x ∉ (recsOf p).map (fun x => x.name) ∧ x ∉ (litsOf p).map (fun x => x.1) ∧ x ∉ (clssOf p loose).map (fun x => x.name))
theorem nob_of {p : Program} {loose : List Str} {mean : ExcName → Option Value} {mg mb : Str → Option Value} {h : Heap} (T : Top p loose mean mg mb h) (hc : nbOk p loose = true) : ∀ x ∈ usedB, mg x = none := fun x hx => by
  obtain ⟨h1, h2, h3, h4, h5⟩ := of_decide_eq_true (List.all_eq_true.mp hc x hx)
  exact T.free x h1 h2 h3 h4 h5
theorem law1_enter (G : Gc) (D : Defs1 G) (hm : dLaw ∈ recsOf G.p) {fa l : Addr} {vs : List Value} {is : List Int} {s : Shared} (hmg : G.mg "law" = some (.ref fa))
    (hL : s.heap.IsList l vs.toArray) (hI : IntsAre vs is) (hl : is.length ≤ 63) (hb : ∀ b o, G.base.get? b = some o → s.heap.get? b = some o) (hg : s.gens = #[]) {Q : Value → Shared → Prop} {E : Value → Shared → Prop}
    (h : ∀ s', (∀ b o, s.heap.get? b = some o → s'.heap.get? b = some o) → s'.os = s.os → AllBare s'.gens → Q (.bool true) s') : wpAny (model G.prog G.w) callerA (call (.ref fa) [.ref l]) Q E s := by
  obtain ⟨form, x5, h5, hf, hf4, hc, hfm⟩ := law1_true is
  exact enter (0 + 51) (by omega) (fn_law (n := 0) D hm (by omega) is (by omega) form x5 h5 hf hf4 hc hfm) hmg hL hI hb hg h
end Mine
open PySem PySem.W PyProof.Rows
set_option maxRecDepth 100000 in
set_option maxHeartbeats 8000000 in
theorem PySem.Challenge.cw_wb0028_01_holds : PySem.Challenge.rw_wb0028_01.Holds := by
  w_on
  o_law
  o_head (Hook.none)
  (case hw => w_witness2)
  intro w s₀ s₁ mg mb G Y fa o pm cd doc dV kV ho hd hcd hD hmg hg args vals as hpre hlay hrd hwl hlo
  refine Ground.open G ?_
  intro T B D TE TW
  wrow_args hpre hlay hrd hwl hlo
  clear hd hcd hD
  have hL := ‹Heap.IsList _ _ _›
  have hI := ‹IntsAre _ _›
  have hlen := ‹¬ (_ : Int) < _›
  let Gx : Mine.Gc := ⟨PySem.Challenge.pw_wb0028_01, w, _, _, _, mg, mb, s₁.heap, T⟩
  have nb : Mine.NoB Gx := Mine.nob_of T (by decide +kernel)
  have T1 : Mine.Top1 Gx := ⟨nb, by rfl, by rfl⟩
  have D0 : Mine.Defs Gx := by
    refine ⟨T1, ?_, ?_, ?_, ?_, ?_, ?_⟩
    all_goals (repeat (first | exact List.Mem.head _ | refine List.Mem.tail _ ?_))
  have D1 : Mine.Defs1 Gx := by
    refine ⟨D0, ?_, ?_, ?_, ?_, ?_, ?_, ?_, ?_, ?_⟩
    all_goals (repeat (first | exact List.Mem.head _ | refine List.Mem.tail _ ?_))
  have dl : Mine.dLaw ∈ recsOf Gx.p := by repeat (first | exact List.Mem.head _ | refine List.Mem.tail _ ?_)
  refine Mine.law1_enter Gx D1 dl (fa := fa) hmg hL hI (by omega) (fun b o e => e) hg (fun s' k os bare => ⟨.inl ⟨_, .bool true, [], rfl, ?_, .bool true, ?_, ?_⟩, .of_keep k, os, bare⟩)
  · exact fun _ => rfl
  · clear hmg; wrow_post
  · exact fun _ => ⟨List.nodup_nil, fun a h => by cases h⟩
