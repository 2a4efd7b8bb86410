import PyProof.Rows.All
import Wide.All
import Open.Line
import Wide.FinOn
import PyProof.ExcFactsAll.ValueError
import KE.FramesApart
import PySem.Challenge.RW_wb0028_02
set_option maxRecDepth 100000
set_option Elab.async false
set_option linter.all false
open PySem PyProof.Rows

namespace Mine

abbrev Tx := List Nat
def mkS (c : Tx) : Str := ⟨c.toArray⟩
theorem mkS_inj {a b : Tx} (h : mkS a = mkS b) : a = b := by
  have := congrArg Str.cps h
  simpa [mkS] using this

inductive PV where
  | none
  | bool (b : Bool)
  | int (i : Int)
  | str (c : Tx)
  | list (xs : List PV)
  | tup (xs : List PV)
  | rng (lo hi st : Int)
  | pl (xs : List PV)

abbrev no : Nat → Prop := fun _ => False

mutual
def Rep (Z : Addr → Prop) (h : Heap) : PV → Value → Prop
  | .none, v => v = .none
  | .bool b, v => v = .bool b
  | .int i, v => ∃ t, v = .int i t
  | .str c, v => ∃ t, v = .str (mkS c) t
  | .list xs, v => ∃ a vs, v = .ref a ∧ Z a ∧ h.IsList a vs.toArray ∧ Reps Z h xs vs
  | .tup xs, v => ∃ a vs, v = .ref a ∧ Z a ∧ h.IsTuple a vs.toArray ∧ Reps Z h xs vs
  | .rng lo hi st, v => ∃ a t u w, v = .ref a ∧ Z a ∧ IsRange h a lo hi st t u w
  | .pl xs, v => ∃ a vs, v = .ref a ∧ Z a ∧ h.PlainList a vs.toArray ∧ Reps Z h xs vs
def Reps (Z : Addr → Prop) (h : Heap) : List PV → List Value → Prop
  | [], vs => vs = []
  | x :: xs, vs => ∃ v ws, vs = v :: ws ∧ Rep Z h x v ∧ Reps Z h xs ws
end

mutual
theorem Rep.mono {Z Z' : Addr → Prop} {h h' : Heap} (hz : ∀ b, Z b → Z' b) (hk : ∀ b o, Z b → h.get? b = some o → h'.get? b = some o) :
    ∀ {x : PV} {v : Value}, Rep Z h x v → Rep Z' h' x v
  | .none, v, r => by simpa [Rep] using r
  | .bool b, v, r => by simpa [Rep] using r
  | .int i, v, r => by simpa [Rep] using r
  | .str c, v, r => by simpa [Rep] using r
  | .list xs, v, r => by
    simp only [Rep] at r ⊢
    obtain ⟨a, vs, e, za, ⟨o, ho, hl⟩, rs⟩ := r
    exact ⟨a, vs, e, hz _ za, ⟨o, hk a o za ho, hl⟩, Reps.mono hz hk rs⟩
  | .tup xs, v, r => by
    simp only [Rep] at r ⊢
    obtain ⟨a, vs, e, za, ⟨o, ho, hl⟩, rs⟩ := r
    exact ⟨a, vs, e, hz _ za, ⟨o, hk a o za ho, hl⟩, Reps.mono hz hk rs⟩
  | .rng lo hi st, v, r => by
    simp only [Rep] at r ⊢
    obtain ⟨a, t, u, w, e, za, hr⟩ := r
    exact ⟨a, t, u, w, e, hz _ za, hk a _ za hr⟩
  | .pl xs, v, r => by
    simp only [Rep] at r ⊢
    obtain ⟨a, vs, e, za, ⟨k, ho⟩, rs⟩ := r
    exact ⟨a, vs, e, hz _ za, ⟨k, hk a _ za ho⟩, Reps.mono hz hk rs⟩
theorem Reps.mono {Z Z' : Addr → Prop} {h h' : Heap} (hz : ∀ b, Z b → Z' b) (hk : ∀ b o, Z b → h.get? b = some o → h'.get? b = some o) :
    ∀ {xs : List PV} {vs : List Value}, Reps Z h xs vs → Reps Z' h' xs vs
  | [], vs, r => by simpa [Reps] using r
  | x :: xs, vs, r => by
    simp only [Reps] at r ⊢
    obtain ⟨v, ws, e, r1, r2⟩ := r
    exact ⟨v, ws, e, Rep.mono hz hk r1, Reps.mono hz hk r2⟩
end

theorem Reps.length {Z : Addr → Prop} {h : Heap} : ∀ {xs : List PV} {vs : List Value}, Reps Z h xs vs → vs.length = xs.length
  | [], vs, r => by simp only [Reps] at r; rw [r]; rfl
  | x :: xs, vs, r => by
    simp only [Reps] at r
    obtain ⟨v, ws, e, _, r2⟩ := r
    rw [e, List.length_cons, List.length_cons, r2.length]
theorem Reps.get {Z : Addr → Prop} {h : Heap} : ∀ {xs : List PV} {vs : List Value} {i : Nat} {x : PV}, Reps Z h xs vs → xs[i]? = some x → ∃ v, vs[i]? = some v ∧ Rep Z h x v
  | [], vs, i, x, r, hx => by simp at hx
  | y :: xs, vs, i, x, r, hx => by
    simp only [Reps] at r
    obtain ⟨v, ws, e, r1, r2⟩ := r
    subst e
    cases i with
    | zero => simp only [List.getElem?_cons_zero, Option.some.injEq] at hx ⊢; subst hx; exact ⟨v, rfl, r1⟩
    | succ i => simp only [List.getElem?_cons_succ] at hx ⊢; exact Reps.get r2 hx
theorem Reps.append {Z : Addr → Prop} {h : Heap} : ∀ {xs ys : List PV} {vs ws : List Value}, Reps Z h xs vs → Reps Z h ys ws → Reps Z h (xs ++ ys) (vs ++ ws)
  | [], ys, vs, ws, r, q => by simp only [Reps] at r; subst r; exact q
  | x :: xs, ys, vs, ws, r, q => by
    simp only [Reps] at r
    obtain ⟨v, us, e, r1, r2⟩ := r
    subst e
    exact ⟨v, us ++ ws, rfl, r1, Reps.append r2 q⟩
theorem Reps.take {Z : Addr → Prop} {h : Heap} : ∀ (n : Nat) {xs : List PV} {vs : List Value}, Reps Z h xs vs → Reps Z h (xs.take n) (vs.take n)
  | 0, xs, vs, r => by simp [Reps]
  | n + 1, [], vs, r => by simp only [Reps] at r; subst r; simp [Reps]
  | n + 1, x :: xs, vs, r => by
    simp only [Reps] at r
    obtain ⟨v, us, e, r1, r2⟩ := r
    subst e
    exact ⟨v, us.take n, rfl, r1, r2.take n⟩
theorem Reps.drop {Z : Addr → Prop} {h : Heap} : ∀ (n : Nat) {xs : List PV} {vs : List Value}, Reps Z h xs vs → Reps Z h (xs.drop n) (vs.drop n)
  | 0, xs, vs, r => r
  | n + 1, [], vs, r => by simp only [Reps] at r; subst r; simp [Reps]
  | n + 1, x :: xs, vs, r => by
    simp only [Reps] at r
    obtain ⟨v, us, e, r1, r2⟩ := r
    subst e
    exact r2.drop n

abbrev Liv (Z : Addr → Prop) (h : Heap) : Prop := ∀ b, Z b → ∃ o, h.get? b = some o
theorem none_size (h : Heap) : h.get? h.objs.size = none := by
  cases e : h.get? h.objs.size with
  | none => rfl
  | some o => exact absurd (Heap.lt_size e) (Nat.lt_irrefl _)

/-- what a step leaves: outside of W the heap stands, outside of H the generators stand -/
structure ExtG (W : Addr → Prop) (H : Nat → Prop) (s s' : Shared) : Prop where
  keep : ∀ b o, ¬ W b → s.heap.get? b = some o → s'.heap.get? b = some o
  gsize : s.gens.size ≤ s'.gens.size
  gens : ∀ g x, ¬ H g → s.gens[g]? = some x → s'.gens[g]? = some x
  os : s'.os = s.os
  bare : AllBare s.gens → AllBare s'.gens

theorem ExtG.refl (W : Addr → Prop) (H : Nat → Prop) (s : Shared) : ExtG W H s s :=
  ⟨fun _ _ _ e => e, Nat.le_refl _, fun _ _ _ e => e, rfl, fun x => x⟩
theorem ExtG.trans {W W' : Addr → Prop} {H H' : Nat → Prop} {s s' s'' : Shared} (x : ExtG W H s s') (y : ExtG W' H' s' s'')
    (hw : ∀ b, W' b → W b ∨ s.heap.get? b = none) (hh : ∀ g, H' g → H g ∨ s.gens.size ≤ g) : ExtG W H s s'' where
  keep := fun b o nb e => y.keep b o (fun wb => (hw b wb).elim nb fun le => by rw [le] at e; cases e) (x.keep b o nb e)
  gsize := Nat.le_trans x.gsize y.gsize
  gens := fun g st ng e => y.gens g st (fun hg => (hh g hg).elim ng fun le => by
    obtain ⟨hlt, _⟩ := Array.getElem?_eq_some_iff.mp e
    exact Nat.lt_irrefl _ (Nat.lt_of_lt_of_le hlt le)) (x.gens g st ng e)
  os := y.os.trans x.os
  bare := fun b => y.bare (x.bare b)
theorem ExtG.wide {W W' : Addr → Prop} {H H' : Nat → Prop} {s s' : Shared} (x : ExtG W H s s') (hw : ∀ b, W b → W' b ∨ s.heap.get? b = none) (hh : ∀ g, H g → H' g ∨ s.gens.size ≤ g) : ExtG W' H' s s' :=
  ExtG.trans (ExtG.refl W' H' s) x hw hh
theorem ExtG.dead {W : Addr → Prop} {H : Nat → Prop} {s s' : Shared} (x : ExtG W H s s') {b : Addr} (h : s'.heap.get? b = none) : s.heap.get? b = none ∨ W b := by
  cases e : s.heap.get? b with
  | none => exact .inl rfl
  | some o =>
    by_cases w : W b
    · exact .inr w
    · have := x.keep b o w e; rw [h] at this; cases this

abbrev Ext0 := ExtG no no
theorem Ext0.any {W : Addr → Prop} {H : Nat → Prop} {s s' : Shared} (x : Ext0 s s') : ExtG W H s s' := x.wide (fun _ h => h.elim) (fun _ h => h.elim)
theorem Ext0.trans' {s s' s'' : Shared} (x : Ext0 s s') (y : Ext0 s' s'') : Ext0 s s'' := x.trans y (fun _ h => h.elim) (fun _ h => h.elim)
theorem Ext0.dead {s s' : Shared} (x : Ext0 s s') {b : Addr} (h : s'.heap.get? b = none) : s.heap.get? b = none := (ExtG.dead x h).elim id fun f => f.elim
theorem Ext0.alive {s s' : Shared} (x : Ext0 s s') : ∀ b o, s.heap.get? b = some o → ∃ o', s'.heap.get? b = some o' := fun b o e => ⟨o, x.keep b o (fun h => h) e⟩
theorem Ext0.keep' {s s' : Shared} (x : Ext0 s s') : ∀ b o, s.heap.get? b = some o → s'.heap.get? b = some o := fun b o e => x.keep b o (fun h => h) e

theorem Ext0.heap {s : Shared} {h' : Heap} {tk : Nat} (hk : ∀ b o, s.heap.get? b = some o → h'.get? b = some o) : Ext0 s { s with heap := h', toks := tk } :=
  ⟨fun b o _ e => hk b o e, Nat.le_refl _, fun _ _ _ e => e, rfl, fun x => x⟩
theorem Ext0.tok (s : Shared) (tk : Nat) : Ext0 s { s with toks := tk } := Ext0.heap fun _ _ e => e
theorem Ext0.push (s : Shared) (o : Obj) (tk : Nat) : Ext0 s { s with heap := s.heap.push o, toks := tk } :=
  Ext0.heap fun _ _ e => Heap.get?_push_of_some o e

/-- the frozen set grows by new things alone -/
structure ZG (Z : Addr → Prop) (s : Shared) (Z' : Addr → Prop) (s' : Shared) : Prop where
  sub : ∀ b, Z b → Z' b
  new : ∀ b, Z' b → Z b ∨ s.heap.get? b = none
  lt : Liv Z' s'.heap

theorem ZG.refl {Z : Addr → Prop} {s : Shared} (h : Liv Z s.heap) : ZG Z s Z s := ⟨fun _ x => x, fun _ x => .inl x, h⟩
theorem ZG.trans {Z Z' Z'' : Addr → Prop} {s s' s'' : Shared} (x : ZG Z s Z' s') (y : ZG Z' s' Z'' s'') (h : Ext0 s s') : ZG Z s Z'' s'' :=
  ⟨fun b z => y.sub b (x.sub b z), fun b z => (y.new b z).elim (fun z => x.new b z) fun le => .inr (Ext0.dead h le), y.lt⟩
theorem ZG.same {Z : Addr → Prop} {s s' : Shared} (h : Liv Z s.heap) (x : Ext0 s s') : ZG Z s Z s' :=
  ⟨fun _ z => z, fun _ z => .inl z, fun b z => let ⟨o, e⟩ := h b z; Ext0.alive x b o e⟩
/-- with one new object -/
theorem ZG.one {Z : Addr → Prop} {s s' : Shared} {a : Addr} {o : Obj} (h : Liv Z s.heap) (x : Ext0 s s') (ha : s.heap.get? a = none) (ho : s'.heap.get? a = some o) :
    ZG Z s (fun b => Z b ∨ b = a) s' :=
  ⟨fun _ z => .inl z, fun _ z => z.elim .inl fun e => .inr (e ▸ ha), fun b z => z.elim (fun z => let ⟨o, e⟩ := h b z; Ext0.alive x b o e) fun e => ⟨o, e ▸ ho⟩⟩
theorem ZG.push {Z : Addr → Prop} {s : Shared} (o : Obj) (tk : Nat) (h : Liv Z s.heap) (ho : o.isFreed = false := by rfl) :
    ZG Z s (fun b => Z b ∨ b = s.heap.objs.size) { s with heap := s.heap.push o, toks := tk } :=
  ZG.one h (Ext0.push s o tk) (none_size _) (Heap.get?_push_size _ ho)

theorem Rep.ext {Z Z' : Addr → Prop} {s s' : Shared} {x : PV} {v : Value} (r : Rep Z s.heap x v) (e : Ext0 s s') (z : ZG Z s Z' s') : Rep Z' s'.heap x v :=
  r.mono z.sub fun b o _ q => e.keep' b o q
theorem Reps.ext {Z Z' : Addr → Prop} {s s' : Shared} {xs : List PV} {vs : List Value} (r : Reps Z s.heap xs vs) (e : Ext0 s s') (z : ZG Z s Z' s') : Reps Z' s'.heap xs vs :=
  r.mono z.sub fun b o _ q => e.keep' b o q

structure Gc where
  prog : Program
  w : World
  p : Program
  loose : List Str
  mean : ExcName → Option Value
  mg : Str → Option Value
  mb : Str → Option Value
  base : Heap
  top : Top p loose mean mg mb base

def OkA (n : Nat) (A : Around) : Prop := A.handled = none ∧ A.depth + n < 1000 ∧ A.units + 8 * n + 100 < 9900

structure Fi where
  sc : Scope
  L : Addr
  cells : List (Str × Addr)
  q : Str
  fn : Option Addr
  cd : Value
  fr : Option Addr
  own : Bool
  mine : List Str := []
  Z0 : Addr → Prop
  h0 : Heap

/-- a frame's own cells -/
def Fi.Mine (F : Fi) (x : Str) : Prop := F.own = true ∨ x ∈ F.mine
/-- a def's frame, or a comprehension's that owns some cells -/
def Fi.Is (F : Fi) : Option (List Str) → Prop
  | none => F.own = true
  | some l => F.own = false ∧ ∀ x ∈ l, x ∈ F.mine
def Fi.env (F : Fi) : Env := { scope := F.sc, locals := F.L, globals := mainGlobals, cells := F.cells, qual := F.q, func := F.fn, code := F.cd, frame := F.fr, builtins := builtinsNs }

inductive Slot where
  | val (x : PV)
  | own (xs : List PV)

abbrev Loc := List (Str × Slot)

def VarAt (F : Fi) (h : Heap) (x : Str) (v : Value) : Prop :=
  (F.sc.names.lookup x = some .local ∧ ∃ m, h.Ns F.L m ∧ m x = some v) ∨
  (F.sc.names.lookup x = some .cell ∧ ∃ c, F.cells.lookup x = some c ∧ h.IsCell c (some v))

theorem VarAt.mono {F : Fi} {h h' : Heap} {x : Str} {v : Value} (r : VarAt F h x v) (hk : ∀ b o, h.get? b = some o → h'.get? b = some o) : VarAt F h' x v := by
  rcases r with ⟨k, m, hn, hm⟩ | ⟨k, c, hc, hv⟩
  · exact .inl ⟨k, m, hn.keeps hk, hm⟩
  · exact .inr ⟨k, c, hc, hv.keeps hk⟩

structure St (G : Gc) (F : Fi) (Z W : Addr → Prop) (σ : Loc) (s : Shared) : Prop where
  b0 : ∀ b o, G.base.get? b = some o → F.h0.get? b = some o
  hk : ∀ b o, F.h0.get? b = some o → s.heap.get? b = some o
  bare : AllBare s.gens
  zlt : Liv Z s.heap
  wlt : Liv W s.heap
  wn0 : ∀ b, W b → F.h0.get? b = none
  disj : ∀ b, Z b → ¬ W b
  z0 : ∀ b, Z b → F.Z0 b ∨ F.h0.get? b = none
  z1 : ∀ b, F.Z0 b → Z b
  LW : W F.L
  kind : F.sc.kind = .function
  ns : ∃ m, s.heap.Ns F.L m
  cells : ∀ x, F.Mine x → F.sc.names.lookup x = some .cell → ∃ c v, F.cells.lookup x = some c ∧ s.heap.IsCell c v ∧ W c
  inj : ∀ x, F.Mine x → ∀ y c, F.cells.lookup x = some c → F.cells.lookup y = some c → x = y
  ownd : F.sc.names.lookup (".0" : Str) = none → F.own = true
  vals : ∀ x pv, σ.lookup x = some (.val pv) → ∃ v, VarAt F s.heap x v ∧ Rep Z s.heap pv v
  owns : ∃ ad : Str → Addr, (∀ x xs, σ.lookup x = some (.own xs) → W (ad x) ∧ VarAt F s.heap x (.ref (ad x)) ∧ ∃ vs, s.heap.PlainList (ad x) vs.toArray ∧ Reps Z s.heap xs vs) ∧
    ∀ x y xs ys, σ.lookup x = some (.own xs) → σ.lookup y = some (.own ys) → x ≠ y → ad x ≠ ad y

theorem St.base {G : Gc} {F : Fi} {Z W : Addr → Prop} {σ : Loc} {s : Shared} (x : St G F Z W σ s) : ∀ b o, G.base.get? b = some o → s.heap.get? b = some o := fun b o e => x.hk b o (x.b0 b o e)

theorem St.ext {G : Gc} {F : Fi} {Z Z' W : Addr → Prop} {σ : Loc} {s s' : Shared} (x : St G F Z W σ s) (e : Ext0 s s') (z : ZG Z s Z' s') : St G F Z' W σ s' where
  b0 := x.b0
  hk := fun b o q => e.keep' b o (x.hk b o q)
  bare := e.bare x.bare
  zlt := z.lt
  wlt := fun b wb => let ⟨o, q⟩ := x.wlt b wb; Ext0.alive e b o q
  wn0 := x.wn0
  disj := fun b zb wb => (z.new b zb).elim (fun zb => x.disj b zb wb) fun le => by
    obtain ⟨o, q⟩ := x.wlt b wb
    rw [le] at q; cases q
  z0 := fun b zb => (z.new b zb).elim (fun zb => x.z0 b zb) fun le => .inr (by
    cases q : F.h0.get? b with
    | none => rfl
    | some o => rw [x.hk b o q] at le; cases le)
  z1 := fun b zb => z.sub b (x.z1 b zb)
  LW := x.LW
  kind := x.kind
  ns := let ⟨m, hm⟩ := x.ns; ⟨m, hm.keeps e.keep'⟩
  cells := fun y o hy => let ⟨c, v, h1, h2, h3⟩ := x.cells y o hy; ⟨c, v, h1, h2.keeps e.keep', h3⟩
  inj := x.inj
  ownd := x.ownd
  vals := fun y pv hy => let ⟨v, h1, h2⟩ := x.vals y pv hy; ⟨v, h1.mono e.keep', h2.ext e z⟩
  owns := by
    obtain ⟨ad, h1, h2⟩ := x.owns
    refine ⟨ad, fun y xs hy => ?_, h2⟩
    obtain ⟨hw, hv, vs, ⟨n, hp⟩, hr⟩ := h1 y xs hy
    exact ⟨hw, hv.mono e.keep', vs, ⟨n, e.keep' _ _ hp⟩, hr.ext e z⟩

/-- names may be dropped, an owned list may be taken as it is said again -/
theorem St.weak {G : Gc} {F : Fi} {Z W : Addr → Prop} {σ τ : Loc} {s : Shared} (x : St G F Z W σ s) (h : ∀ y sl, τ.lookup y = some sl → σ.lookup y = some sl) : St G F Z W τ s :=
  { x with
    vals := fun y pv hy => x.vals y pv (h _ _ hy)
    owns := let ⟨ad, h1, h2⟩ := x.owns; ⟨ad, fun y xs hy => h1 y xs (h _ _ hy), fun y z xs ys hy hz => h2 y z xs ys (h _ _ hy) (h _ _ hz)⟩ }

structure Ev (G : Gc) (n : Nat) (sc : Scope) (σ : Loc) (e : Expr) (pv : PV) : Prop where
  run : ∀ (F : Fi) (A : Around) (Z W : Addr → Prop) (s : Shared) (Q : Value → Shared → Prop) (E : Value → Shared → Prop), F.sc = sc → OkA n A → St G F Z W σ s →
    (∀ v s' Z', Ext0 s s' → ZG Z s Z' s' → Rep Z' s'.heap pv v → Q v s') → wpAny (model G.prog G.w) A (eval e F.env) Q E s

structure EvT (G : Gc) (n : Nat) (sc : Scope) (σ : Loc) (e : Expr) (b : Bool) : Prop where
  run : ∀ (F : Fi) (A : Around) (Z W : Addr → Prop) (s : Shared) (Q : Bool → Shared → Prop) (E : Value → Shared → Prop), F.sc = sc → OkA n A → St G F Z W σ s →
    (∀ s' Z', Ext0 s s' → ZG Z s Z' s' → Q b s') → wpAny (model G.prog G.w) A (isTrue e F.env (eval e F.env)) Q E s

structure EvL (G : Gc) (n : Nat) (sc : Scope) (σ : Loc) (es : List Expr) (pvs : List PV) : Prop where
  run : ∀ (F : Fi) (A : Around) (Z W : Addr → Prop) (s : Shared) (Q : List Value → Shared → Prop) (E : Value → Shared → Prop) (pos : Pos), F.sc = sc → OkA n A → St G F Z W σ s →
    (∀ vs s' Z', Ext0 s s' → ZG Z s Z' s' → Reps Z' s'.heap pvs vs → Q vs s') → wpAny (model G.prog G.w) A (spliced (backTo pos (starEach es F.env))) Q E s

section
variable {G : Gc} {n : Nat} {sc : Scope} {σ : Loc}

theorem Ev.cNone {k pos} : Ev G n sc σ (.Constant .none k pos) .none := ⟨fun F A Z W s Q E _ _ st h =>
  wpAny_Constant_none (h _ _ Z (ExtG.refl ..) (ZG.refl st.zlt) (by simp [Rep]))⟩
theorem Ev.cBool {b k pos} : Ev G n sc σ (.Constant (.bool b) k pos) (.bool b) := ⟨fun F A Z W s Q E _ _ st h =>
  wpAny_Constant_bool (h _ _ Z (ExtG.refl ..) (ZG.refl st.zlt) (by simp [Rep]))⟩
theorem Ev.cInt {i k pos} : Ev G n sc σ (.Constant (.int i) k pos) (.int i) := ⟨fun F A Z W s Q E _ _ st h =>
  wpAny_Constant_int (h _ _ Z (Ext0.tok ..) (ZG.same st.zlt (Ext0.tok _ _)) (by simp [Rep]))⟩
theorem Ev.cStr {x : Str} {c : Tx} {k pos} (hx : x = mkS c) : Ev G n sc σ (.Constant (.str x) k pos) (.str c) := ⟨fun F A Z W s Q E _ _ st h =>
  wpAny_Constant_str (h _ _ Z (Ext0.tok ..) (ZG.same st.zlt (Ext0.tok _ _)) (by simp [Rep, hx]))⟩

theorem Ev.name {x : Str} {pv : PV} {pos} (hx : σ.lookup x = some (.val pv)) (hd : (x == ("__debug__" : Str)) = false) : Ev G n sc σ (.Name x pos) pv := by
  refine ⟨fun F A Z W s Q E hsc ok st h => ?_⟩
  obtain ⟨v, hv, hr⟩ := st.vals x pv hx
  rcases hv with ⟨k, m, hn, hm⟩ | ⟨k, c, hc, hv⟩
  · exact wpAny_Name (wpAny_loadName_local (env := F.env) st.kind k hn hm (h _ _ Z (ExtG.refl ..) (ZG.refl st.zlt) hr)) hd
  · exact wpAny_Name (wpAny_loadName_cell (env := F.env) st.kind k hc hv (h _ _ Z (ExtG.refl ..) (ZG.refl st.zlt) hr)) hd

theorem EvL.nil : EvL G n sc σ [] [] := ⟨fun F A Z W s Q E pos _ _ st h => wpAny_items_nil (h _ _ Z (ExtG.refl ..) (ZG.refl st.zlt) (by simp [Reps]))⟩
theorem EvL.cons {e : Expr} {es : List Expr} {x : PV} {xs : List PV} (h1 : Ev G n sc σ e x) (h2 : EvL G n sc σ es xs)
    (he : ∀ env, starEach (e :: es) env = (false, eval e env) :: starEach es env) : EvL G n sc σ (e :: es) (x :: xs) := by
  refine ⟨fun F A Z W s Q E pos hsc ok st h => ?_⟩
  refine wpAny_items_cons (h1.run F A Z W s _ _ hsc ok st fun v s1 Z1 e1 z1 r1 => ?_) (he _)
  refine h2.run F A Z1 W s1 _ _ pos hsc ok (st.ext e1 z1) fun vs s2 Z2 e2 z2 r2 => ?_
  exact h _ _ Z2 (e1.trans' e2) (z1.trans z2 e1) ⟨v, vs, rfl, r1.ext e2 z2, r2⟩

theorem Ev.mkL {es : List Expr} {xs : List PV} {pos} (h1 : EvL G n sc σ es xs) (hl : xs.length ≤ 1000000) : Ev G n sc σ (.List es pos) (.list xs) := by
  refine ⟨fun F A Z W s Q E hsc ok st h => ?_⟩
  refine wpAny_List (h1.run F A Z W s _ _ pos hsc ok st fun vs s1 Z1 e1 z1 r1 => ⟨?_, ?_⟩)
  · rw [r1.length, sizeLine_eq]; omega
  · have st1 := st.ext e1 z1
    refine h _ _ _ (e1.trans' (Ext0.push s1 _ s1.toks)) (z1.trans (ZG.push _ s1.toks st1.zlt) e1) ?_
    simp only [Rep]
    exact ⟨_, vs, rfl, .inr rfl, ⟨_, Heap.get?_push_size _ rfl, rfl, _, rfl⟩, r1.mono (fun _ z => .inl z) fun b o _ q => Heap.get?_push_of_some _ q⟩
theorem Ev.mkT {es : List Expr} {xs : List PV} {k pos} (h1 : EvL G n sc σ es xs) (hl : xs.length ≤ 1000000) : Ev G n sc σ (.Tuple es k pos) (.tup xs) := by
  refine ⟨fun F A Z W s Q E hsc ok st h => ?_⟩
  refine wpAny_Tuple (h1.run F A Z W s _ _ pos hsc ok st fun vs s1 Z1 e1 z1 r1 => ⟨?_, ?_⟩)
  · rw [r1.length, sizeLine_eq]; omega
  · have st1 := st.ext e1 z1
    refine h _ _ _ (e1.trans' (Ext0.push s1 _ s1.toks)) (z1.trans (ZG.push _ s1.toks st1.zlt) e1) ?_
    simp only [Rep]
    exact ⟨_, vs, rfl, .inr rfl, ⟨_, Heap.get?_push_size _ rfl, rfl, _, rfl⟩, r1.mono (fun _ z => .inl z) fun b o _ q => Heap.get?_push_of_some _ q⟩
end

end Mine
namespace Mine

def OpV (G : Gc) (n : Nat) (t : Value → Value → Sem Value) (a b c : PV) : Prop :=
  ∀ (A : Around) (Z : Addr → Prop) (s : Shared) (v w : Value) (Q : Value → Shared → Prop) (E : Value → Shared → Prop), OkA n A → (Liv Z s.heap) →
    Rep Z s.heap a v → Rep Z s.heap b w → (∀ r s' Z', Ext0 s s' → ZG Z s Z' s' → Rep Z' s'.heap c r → Q r s') → wpAny (model G.prog G.w) A (t v w) Q E s
abbrev BinV (G : Gc) (n : Nat) (op : Operator) := OpV G n (binaryOp op)
abbrev CmpV (G : Gc) (n : Nat) (op : CmpOp) := OpV G n (compareOp op)
abbrev InV (G : Gc) (n : Nat) (op : Operator) := OpV G n (inplaceOp op)

theorem fin0 {Z : Addr → Prop} {s : Shared} {c : PV} {v : Value} {Q : Value → Shared → Prop} (h : ∀ r s' Z', Ext0 s s' → ZG Z s Z' s' → Rep Z' s'.heap c r → Q r s') (zl : Liv Z s.heap)
    (r : Rep Z s.heap c v) : Q v s := h _ _ Z (ExtG.refl ..) (ZG.refl zl) r
theorem finT {Z : Addr → Prop} {s : Shared} {c : PV} {v : Value} {tk : Nat} {Q : Value → Shared → Prop} (h : ∀ r s' Z', Ext0 s s' → ZG Z s Z' s' → Rep Z' s'.heap c r → Q r s') (zl : Liv Z s.heap)
    (r : Rep Z s.heap c v) : Q v { s with toks := tk } := h _ _ Z (Ext0.tok ..) (ZG.same zl (Ext0.tok _ _)) r

def bi (p : Bool) : Int := if p then 1 else 0

theorem mkS_cps (c : Tx) : (mkS c).cps.toList = c := rfl
theorem mkS_len (c : Tx) : (mkS c).length = c.length := by simp [mkS, Str.length]
theorem mkS_app (a b : Tx) : mkS a ++ mkS b = mkS (a ++ b) := Str.ext' (by rw [Str.cps_append]; simp [mkS])
section
variable {G : Gc} {n : Nat} {σ : Loc} {sc : Scope}

theorem BinV.addI {a b : Int} : BinV G n .Add (.int a) (.int b) (.int (a + b)) := by
  intro A Z s v w Q E ok zl ra rb h
  simp only [Rep] at ra rb
  obtain ⟨t, rfl⟩ := ra
  obtain ⟨u, rfl⟩ := rb
  exact PyProof.Rows.add_int (finT h zl (by simp [Rep]))
theorem BinV.subI {a b : Int} : BinV G n .Sub (.int a) (.int b) (.int (a - b)) := by
  intro A Z s v w Q E ok zl ra rb h
  simp only [Rep] at ra rb
  obtain ⟨t, rfl⟩ := ra
  obtain ⟨u, rfl⟩ := rb
  exact PyProof.Rows.sub_int (finT h zl (by simp [Rep]))
theorem BinV.subB {a b : Bool} : BinV G n .Sub (.bool a) (.bool b) (.int (bi a - bi b)) := by
  intro A Z s v w Q E ok zl ra rb h
  simp only [Rep] at ra rb
  subst ra rb
  exact PyProof.Rows.sub_bool (finT h zl (by simp [Rep, bi, PyProof.Rows.b2i]))
theorem BinV.mulI {a b : Int} (hm : IntMulOk a b) : BinV G n .Mult (.int a) (.int b) (.int (a * b)) := by
  intro A Z s v w Q E ok zl ra rb h
  simp only [Rep] at ra rb
  obtain ⟨t, rfl⟩ := ra
  obtain ⟨u, rfl⟩ := rb
  exact PySem.P.mul_int (finT h zl (by simp [Rep])) hm
theorem BinV.modI {a b : Int} (hb : b ≠ 0) : BinV G n .Mod (.int a) (.int b) (.int (a.fmod b)) := by
  intro A Z s v w Q E ok zl ra rb h
  simp only [Rep] at ra rb
  obtain ⟨t, rfl⟩ := ra
  obtain ⟨u, rfl⟩ := rb
  exact PyProof.Rows.mod_int' hb (finT h zl (by simp [Rep]))
theorem BinV.divI {a b : Int} (hb : b ≠ 0) (hp : Builtin.divisionGoesByPylong a b = false) : BinV G n .FloorDiv (.int a) (.int b) (.int (a.fdiv b)) := by
  intro A Z s v w Q E ok zl ra rb h
  simp only [Rep] at ra rb
  obtain ⟨t, rfl⟩ := ra
  obtain ⟨u, rfl⟩ := rb
  exact PyProof.Rows.floordiv_int hb (finT h zl (by simp [Rep])) (.inl hp)
theorem BinV.pow106 : BinV G n .Pow (.int 10) (.int 6) (.int 1000000) := by
  intro A Z s v w Q E ok zl ra rb h
  simp only [Rep] at ra rb
  obtain ⟨t, rfl⟩ := ra
  obtain ⟨u, rfl⟩ := rb
  exact AutoIntOps.pow_4 (by decide) (by decide) (by decide) (by decide) (by decide +kernel) (finT h zl (by simp [Rep]))

theorem addS {n : Nat} {a b : Tx} (hl : a.length + b.length ≤ 1000000) {A : Around} {Z : Addr → Prop} {s : Shared} {t u : Tok} {Q : Value → Shared → Prop} (zl : Liv Z s.heap)
    (h : ∀ r s' Z', Ext0 s s' → ZG Z s Z' s' → Rep Z' s'.heap (.str (a ++ b)) r → Q r s') :
    (if (mkS a).length == 0 then Made.val (.str (mkS b) u) else if (mkS b).length == 0 then Made.val (.str (mkS a) t) else Made.str (mkS a ++ mkS b)).post Q s := by
  rw [mkS_len, mkS_len]
  split
  · rename_i q
    have : a = [] := by simpa using q
    subst this
    exact fin0 h zl (by simp [Rep])
  · split
    · rename_i q
      have : b = [] := by simpa using q
      subst this
      exact fin0 h zl (by simp [Rep])
    · show (mkS a ++ mkS b).length ≤ sizeLine ∧ _
      rw [mkS_app, mkS_len, List.length_append]
      exact ⟨by rw [sizeLine_eq]; omega, finT h zl (by simp [Rep])⟩
theorem BinV.addS {a b : Tx} (hl : a.length + b.length ≤ 1000000) : BinV G n .Add (.str a) (.str b) (.str (a ++ b)) := by
  intro A Z s v w Q E ok zl ra rb h
  simp only [Rep] at ra rb
  obtain ⟨t, rfl⟩ := ra
  obtain ⟨u, rfl⟩ := rb
  exact PySem.P.add_str (Mine.addS (A := A) (n := n) hl zl h)
end
end Mine
namespace Mine

mutual
def toPy : PV → PyData
  | .none => .none
  | .bool b => .bool b
  | .int i => .int i
  | .str c => .str (mkS c)
  | .list xs => .list (toPys xs)
  | .tup xs => .tuple (toPys xs)
  | .rng _ _ _ => .none
  | .pl _ => .none
def toPys : List PV → List PyData
  | [] => []
  | x :: xs => toPy x :: toPys xs
end

mutual
def peq : PV → PV → Bool
  | .none, .none => true
  | .bool a, .bool b => a == b
  | .bool a, .int j => (if a then 1 else 0) == j
  | .int i, .bool b => i == (if b then 1 else 0)
  | .int i, .int j => i == j
  | .str x, .str y => x == y
  | .list xs, .list ys => peqs xs ys
  | .tup xs, .tup ys => peqs xs ys
  | _, _ => false
def peqs : List PV → List PV → Bool
  | [], [] => true
  | x :: xs, y :: ys => peq x y && peqs xs ys
  | _, _ => false
end

def pok : Nat → PV → Bool
  | _, .none => true
  | _, .bool _ => true
  | _, .int _ => true
  | _, .str c => c.all (· < 1114112)
  | n + 1, .list xs => xs.all (pok n)
  | n + 1, .tup xs => xs.all (pok n)
  | _, _ => false

mutual
theorem rep_reads {Z : Addr → Prop} {h : Heap} : ∀ {n : Nat} {p : PV} {v : Value}, Rep Z h p v → pok n p = true → ∃ as, Reads h v (toPy p) as
  | n, .none, v, r, _ => by simp only [Rep] at r; subst r; exact ⟨_, by simp only [toPy]; exact .none⟩
  | n, .bool b, v, r, _ => by simp only [Rep] at r; subst r; exact ⟨_, by simp only [toPy]; exact .bool b⟩
  | n, .int i, v, r, _ => by simp only [Rep] at r; obtain ⟨t, rfl⟩ := r; exact ⟨_, by simp only [toPy]; exact .int i t⟩
  | n, .str c, v, r, _ => by simp only [Rep] at r; obtain ⟨t, rfl⟩ := r; exact ⟨_, by simp only [toPy]; exact .str _ t⟩
  | 0, .list xs, v, r, k => by simp [pok] at k
  | 0, .tup xs, v, r, k => by simp [pok] at k
  | n + 1, .list xs, v, r, k => by
    simp only [Rep] at r
    obtain ⟨a, vs, rfl, _, ⟨o, ho, hc, m, hd⟩, rs⟩ := r
    obtain ⟨as, q⟩ := reps_reads rs (n := n) (by simpa [pok] using k)
    simp only [toPy]
    exact ⟨_, .list ho hc hd q⟩
  | n + 1, .tup xs, v, r, k => by
    simp only [Rep] at r
    obtain ⟨a, vs, rfl, _, ⟨o, ho, hc, m, hd⟩, rs⟩ := r
    obtain ⟨as, q⟩ := reps_reads rs (n := n) (by simpa [pok] using k)
    simp only [toPy]
    exact ⟨_, .tuple ho hc hd q⟩
  | n, .rng _ _ _, v, r, k => by cases n <;> simp [pok] at k
  | n, .pl _, v, r, k => by cases n <;> simp [pok] at k
theorem reps_reads {Z : Addr → Prop} {h : Heap} : ∀ {n : Nat} {xs : List PV} {vs : List Value}, Reps Z h xs vs → (∀ x ∈ xs, pok n x = true) → ∃ as, ReadsAll h vs (toPys xs) as
  | n, [], vs, r, _ => by simp only [Reps] at r; subst r; exact ⟨_, by simp only [toPys]; exact .nil⟩
  | n, x :: xs, vs, r, k => by
    simp only [Reps] at r
    obtain ⟨v, ws, rfl, r1, r2⟩ := r
    obtain ⟨as, q1⟩ := rep_reads r1 (k x (.head _))
    obtain ⟨bs, q2⟩ := reps_reads r2 fun y hy => k y (.tail _ hy)
    simp only [toPys]
    exact ⟨_, .cons q1 q2⟩
end

mutual
theorem py_eqv : ∀ {n : Nat} {a : PV} (b : PV) {m : Nat}, pok n a = true → pok m b = true → PyData.eqv (toPy a) (toPy b) = peq a b
  | n, .none, b, m, _, kb => by cases b <;> first | rfl | (simp [toPy, peq, PyData.eqv]; done) | (cases m <;> simp [pok] at kb)
  | n, .bool _, b, m, _, kb => by cases b <;> first | rfl | (simp [toPy, peq, PyData.eqv]; done) | (cases m <;> simp [pok] at kb)
  | n, .int _, b, m, _, kb => by cases b <;> first | rfl | (simp [toPy, peq, PyData.eqv]; done) | (cases m <;> simp [pok] at kb)
  | n, .str c, b, m, _, kb => by
    cases b with
    | str d =>
      simp only [toPy, peq, PyData.eqv]
      by_cases e : c = d
      · subst e; simp
      · have : mkS c ≠ mkS d := fun q => e (mkS_inj q)
        rw [beq_eq_false_iff_ne.mpr e, beq_eq_false_iff_ne.mpr this]
    | _ => first | rfl | (simp [toPy, peq, PyData.eqv]; done) | (cases m <;> simp [pok] at kb)
  | 0, .list xs, b, m, k, _ => by simp [pok] at k
  | 0, .tup xs, b, m, k, _ => by simp [pok] at k
  | n + 1, .list xs, b, m, ka, kb => by
    cases b with
    | list ys =>
      cases m with
      | zero => simp [pok] at kb
      | succ m => simp only [toPy, peq, PyData.eqv]; exact pys_eqv ys (n := n) (m := m) (by simpa [pok] using ka) (by simpa [pok] using kb)
    | _ => first | rfl | (simp [toPy, peq, PyData.eqv]; done) | (cases m <;> simp [pok] at kb)
  | n + 1, .tup xs, b, m, ka, kb => by
    cases b with
    | tup ys =>
      cases m with
      | zero => simp [pok] at kb
      | succ m => simp only [toPy, peq, PyData.eqv]; exact pys_eqv ys (n := n) (m := m) (by simpa [pok] using ka) (by simpa [pok] using kb)
    | _ => first | rfl | (simp [toPy, peq, PyData.eqv]; done) | (cases m <;> simp [pok] at kb)
  | n, .rng _ _ _, b, m, k, _ => by cases n <;> simp [pok] at k
  | n, .pl _, b, m, k, _ => by cases n <;> simp [pok] at k
theorem pys_eqv : ∀ {n : Nat} {xs : List PV} (ys : List PV) {m : Nat}, (∀ x ∈ xs, pok n x = true) → (∀ y ∈ ys, pok m y = true) → PyData.eqvAll (toPys xs) (toPys ys) = peqs xs ys
  | n, [], ys, m, _, _ => by cases ys <;> simp [toPys, peqs, PyData.eqvAll]
  | n, x :: xs, ys, m, ka, kb => by
    cases ys with
    | nil => simp [toPys, peqs, PyData.eqvAll]
    | cons y ys =>
      simp only [toPys, peqs, PyData.eqvAll]
      rw [py_eqv y (ka x (.head _)) (kb y (.head _)), pys_eqv ys (fun z hz => ka z (.tail _ hz)) fun z hz => kb z (.tail _ hz)]
end

theorem pok_lay : ∀ (n : Nat) (p : PV), pok n p = true → (toPy p).canLay0 = true ∧ (toPy p).depth ≤ n := by
  have all : ∀ (n : Nat), (∀ p, pok n p = true → (toPy p).canLay0 = true ∧ (toPy p).depth ≤ n) → ∀ xs : List PV, (∀ x ∈ xs, pok n x = true) → PyData.canLayAll0 (toPys xs) = true ∧ PyData.depthAll (toPys xs) ≤ n := by
    intro n ih xs
    induction xs with
    | nil => intro _; simp [toPys, PyData.canLayAll0, PyData.depthAll]
    | cons x xs hi =>
      intro h
      have h1 := ih x (h x (.head _))
      have h2 := hi fun e he => h e (.tail _ he)
      simp only [toPys, PyData.canLayAll0, PyData.depthAll, h1.1, h2.1, Bool.and_self, true_and]
      have a1 := h1.2
      have a2 := h2.2
      omega
  have str : ∀ c : Tx, c.all (· < 1114112) = true → PyData.strOk (mkS c) = true := by
    intro c h
    unfold PyData.strOk mkS
    simpa using h
  intro n
  induction n with
  | zero => intro p h; cases p <;> simp_all [pok, toPy, PyData.canLay0, PyData.depth]
  | succ n ih =>
    intro p h
    cases p with
    | none => simp [toPy, PyData.canLay0, PyData.depth]
    | bool b => simp [toPy, PyData.canLay0, PyData.depth]
    | int i => simp [toPy, PyData.canLay0, PyData.depth]
    | str c => simp only [pok] at h; simp [toPy, PyData.canLay0, PyData.depth, str c h]
    | list xs =>
      have q := all n ih xs (by simpa [pok] using h)
      have q2 := q.2
      simp only [toPy, PyData.canLay0, PyData.depth, q.1, true_and]
      omega
    | tup xs =>
      have q := all n ih xs (by simpa [pok] using h)
      have q2 := q.2
      simp only [toPy, PyData.canLay0, PyData.depth, q.1, true_and]
      omega
    | rng _ _ _ => simp [pok] at h
    | pl _ => simp [pok] at h
theorem pok_shaped {n : Nat} {p : PV} (h : pok n p = true) (hn : n ≤ 64) : SeqAt.shaped (toPy p) = true := by
  have := pok_lay n p h
  unfold SeqAt.shaped
  rw [this.1, Bool.true_and]
  exact decide_eq_true (Nat.le_trans this.2 hn)

section
variable {G : Gc} {n : Nat} {σ : Loc} {sc : Scope}

theorem CmpV.eq {a b : PV} {k m : Nat} (ka : pok k a = true) (kb : pok m b = true) (hk : k ≤ 64) (hm : m ≤ 64) : CmpV G n .Eq a b (.bool (peq a b)) := by
  intro A Z s v w Q E ok zl ra rb h
  obtain ⟨as, qa⟩ := rep_reads ra ka
  obtain ⟨bs, qb⟩ := rep_reads rb kb
  refine PyProof.Rows.eq_dataH qa qb (pok_shaped ka hk) (pok_shaped kb hm) (by have := ok.2.2; unfold cLine; omega) ?_
  rw [py_eqv b ka kb]
  exact fin0 h zl (by simp [Rep])
theorem CmpV.ne {a b : PV} {k m : Nat} (ka : pok k a = true) (kb : pok m b = true) (hk : k ≤ 64) (hm : m ≤ 64) : CmpV G n .NotEq a b (.bool (!peq a b)) := by
  intro A Z s v w Q E ok zl ra rb h
  obtain ⟨as, qa⟩ := rep_reads ra ka
  obtain ⟨bs, qb⟩ := rep_reads rb kb
  refine PyProof.Rows.ne_dataH qa qb (pok_shaped ka hk) (pok_shaped kb hm) (by have := ok.2.2; unfold cLine; omega) ?_
  rw [py_eqv b ka kb]
  exact fin0 h zl (by simp [Rep])
theorem CmpV.eqS {a b : Tx} : CmpV G n .Eq (.str a) (.str b) (.bool (a == b)) := by
  intro A Z s v w Q E ok zl ra rb h
  simp only [Rep] at ra rb
  obtain ⟨t, rfl⟩ := ra
  obtain ⟨u, rfl⟩ := rb
  exact PySem.P.eq_str (fin0 h zl (by simp [Rep, mkS_cps]))
theorem CmpV.neS {a b : Tx} : CmpV G n .NotEq (.str a) (.str b) (.bool (a != b)) := by
  intro A Z s v w Q E ok zl ra rb h
  simp only [Rep] at ra rb
  obtain ⟨t, rfl⟩ := ra
  obtain ⟨u, rfl⟩ := rb
  exact PySem.P.ne_str (fin0 h zl (by simp [Rep, mkS_cps]))
theorem CmpV.ltS {a b : Tx} : CmpV G n .Lt (.str a) (.str b) (.bool (decide (a < b))) := by
  intro A Z s v w Q E ok zl ra rb h
  simp only [Rep] at ra rb
  obtain ⟨t, rfl⟩ := ra
  obtain ⟨u, rfl⟩ := rb
  exact PySem.P.lt_str (fin0 h zl (by simp only [Rep, mkS_cps]; congr))
theorem CmpV.gtS {a b : Tx} : CmpV G n .Gt (.str a) (.str b) (.bool (decide (b < a))) := by
  intro A Z s v w Q E ok zl ra rb h
  simp only [Rep] at ra rb
  obtain ⟨t, rfl⟩ := ra
  obtain ⟨u, rfl⟩ := rb
  exact PySem.P.gt_str (fin0 h zl (by simp only [Rep, mkS_cps]; congr))
theorem CmpV.eqI {a b : Int} : CmpV G n .Eq (.int a) (.int b) (.bool (a == b)) := by
  intro A Z s v w Q E ok zl ra rb h
  simp only [Rep] at ra rb
  obtain ⟨t, rfl⟩ := ra
  obtain ⟨u, rfl⟩ := rb
  exact PySem.P.eq_int (fin0 h zl (by simp [Rep]))
theorem CmpV.neI {a b : Int} : CmpV G n .NotEq (.int a) (.int b) (.bool (a != b)) := by
  intro A Z s v w Q E ok zl ra rb h
  simp only [Rep] at ra rb
  obtain ⟨t, rfl⟩ := ra
  obtain ⟨u, rfl⟩ := rb
  exact PySem.P.ne_int (fin0 h zl (by simp [Rep]))
theorem CmpV.ltI {a b : Int} : CmpV G n .Lt (.int a) (.int b) (.bool (decide (a < b))) := by
  intro A Z s v w Q E ok zl ra rb h
  simp only [Rep] at ra rb
  obtain ⟨t, rfl⟩ := ra
  obtain ⟨u, rfl⟩ := rb
  exact PySem.P.lt_int (fin0 h zl (by simp [Rep]))
theorem CmpV.leI {a b : Int} : CmpV G n .LtE (.int a) (.int b) (.bool (decide (a ≤ b))) := by
  intro A Z s v w Q E ok zl ra rb h
  simp only [Rep] at ra rb
  obtain ⟨t, rfl⟩ := ra
  obtain ⟨u, rfl⟩ := rb
  exact PySem.P.le_int (fin0 h zl (by simp [Rep]))
theorem CmpV.gtI {a b : Int} : CmpV G n .Gt (.int a) (.int b) (.bool (decide (b < a))) := by
  intro A Z s v w Q E ok zl ra rb h
  simp only [Rep] at ra rb
  obtain ⟨t, rfl⟩ := ra
  obtain ⟨u, rfl⟩ := rb
  exact PySem.P.gt_int (fin0 h zl (by simp [Rep]))
theorem CmpV.geI {a b : Int} : CmpV G n .GtE (.int a) (.int b) (.bool (decide (b ≤ a))) := by
  intro A Z s v w Q E ok zl ra rb h
  simp only [Rep] at ra rb
  obtain ⟨t, rfl⟩ := ra
  obtain ⟨u, rfl⟩ := rb
  exact PySem.P.ge_int (fin0 h zl (by simp [Rep]))

/-- identity where one side is None or a truth value -/
def pis : PV → PV → Bool
  | .none, .none => true
  | .bool a, .bool b => a == b
  | _, _ => false
def plainP : PV → Bool
  | .none => true
  | .bool _ => true
  | _ => false
theorem rep_is {Z : Addr → Prop} {h : Heap} {a b : PV} {v w : Value} (ra : Rep Z h a v) (rb : Rep Z h b w) (p : plainP b = true) : plainIs v w = true ∧ (v == w) = pis a b := by
  cases b with
  | none =>
    simp only [Rep] at rb
    subst rb
    cases a <;> simp only [Rep] at ra
    · subst ra; exact ⟨rfl, rfl⟩
    · subst ra; exact ⟨rfl, rfl⟩
    · obtain ⟨t, rfl⟩ := ra; exact ⟨rfl, rfl⟩
    · obtain ⟨t, rfl⟩ := ra; exact ⟨rfl, rfl⟩
    · obtain ⟨_, _, rfl, _⟩ := ra; exact ⟨rfl, rfl⟩
    · obtain ⟨_, _, rfl, _⟩ := ra; exact ⟨rfl, rfl⟩
    · obtain ⟨_, _, _, _, rfl, _⟩ := ra; exact ⟨rfl, rfl⟩
    · obtain ⟨_, _, rfl, _⟩ := ra; exact ⟨rfl, rfl⟩
  | bool b =>
    simp only [Rep] at rb
    subst rb
    cases a <;> simp only [Rep] at ra
    · subst ra; exact ⟨rfl, rfl⟩
    · subst ra; exact ⟨rfl, by rename_i c; cases b <;> cases c <;> rfl⟩
    · obtain ⟨t, rfl⟩ := ra; exact ⟨rfl, rfl⟩
    · obtain ⟨t, rfl⟩ := ra; exact ⟨rfl, rfl⟩
    · obtain ⟨_, _, rfl, _⟩ := ra; exact ⟨rfl, rfl⟩
    · obtain ⟨_, _, rfl, _⟩ := ra; exact ⟨rfl, rfl⟩
    · obtain ⟨_, _, _, _, rfl, _⟩ := ra; exact ⟨rfl, rfl⟩
    · obtain ⟨_, _, rfl, _⟩ := ra; exact ⟨rfl, rfl⟩
  | _ => simp [plainP] at p
theorem CmpV.is {a b : PV} (p : plainP b = true) : CmpV G n .Is a b (.bool (pis a b)) := by
  intro A Z s v w Q E ok zl ra rb h
  obtain ⟨h1, h2⟩ := rep_is ra rb p
  refine wpAny_is_plain h1 ?_
  rw [h2]
  exact fin0 h zl (by simp [Rep])
theorem CmpV.isNot {a b : PV} (p : plainP b = true) : CmpV G n .IsNot a b (.bool (!pis a b)) := by
  intro A Z s v w Q E ok zl ra rb h
  obtain ⟨h1, h2⟩ := rep_is ra rb p
  refine wpAny_isNot_plain h1 ?_
  rw [h2]
  exact fin0 h zl (by simp [Rep])

/-- sub stands in s -/
def prefixB : Tx → Tx → Bool
  | [], _ => true
  | _ :: _, [] => false
  | a :: r, b :: t => a == b && prefixB r t
def subIn (sub : Tx) : Tx → Bool
  | [] => prefixB sub []
  | x :: r => prefixB sub (x :: r) || subIn sub r

theorem prefixB_iff : ∀ (a b : Tx), prefixB a b = true ↔ b.take a.length = a
  | [], b => by simp [prefixB]
  | x :: r, [] => by simp [prefixB]
  | x :: r, y :: t => by
    simp only [prefixB, Bool.and_eq_true, beq_iff_eq, List.length_cons, List.take_succ_cons, List.cons.injEq]
    rw [prefixB_iff r t]
    exact and_congr_left fun _ => eq_comm
theorem prefixB_len : ∀ {a b : Tx}, prefixB a b = true → a.length ≤ b.length := by
  intro a b h
  have := (prefixB_iff a b).mp h
  have := congrArg List.length this
  rw [List.length_take] at this
  omega
theorem subIn_iff (sub : Tx) : ∀ x : Tx, subIn sub x = true ↔ ∃ i, i + sub.length ≤ x.length ∧ prefixB sub (x.drop i) = true
  | [] => by
    simp only [subIn, List.drop_nil, List.length_nil]
    constructor
    · intro h; exact ⟨0, by have := prefixB_len h; simpa using this, h⟩
    · rintro ⟨i, _, h⟩; exact h
  | x :: r => by
    simp only [subIn, Bool.or_eq_true, subIn_iff sub r]
    constructor
    · rintro (h | ⟨i, hi, h⟩)
      · exact ⟨0, by have := prefixB_len h; simpa using this, by simpa using h⟩
      · exact ⟨i + 1, by simp only [List.length_cons]; omega, by simpa using h⟩
    · rintro ⟨i, hi, h⟩
      cases i with
      | zero => exact .inl (by simpa using h)
      | succ i => exact .inr ⟨i, by simp only [List.length_cons] at hi; omega, by simpa using h⟩
theorem subAt_mkS (x y : Tx) (i : Nat) (h : i + y.length ≤ x.length) : Builtin.Str.subAt (mkS x) (mkS y) i = prefixB y (x.drop i) := by
  rw [StrLaws.subAt_eq, mkS_cps, mkS_cps, mkS_len, Bool.eq_iff_iff, prefixB_iff, beq_iff_eq]
theorem occ_subIn (x y : Tx) : (!(Builtin.Str.occurrences (mkS x) (mkS y) 0 (mkS x).length 1).isEmpty) = subIn y x := by
  rw [Bool.eq_iff_iff, StrLaws.found_iff, subIn_iff]
  constructor
  · rintro ⟨i, h1, h2⟩
    rw [mkS_len, mkS_len] at h1
    exact ⟨i, h1, by rw [← subAt_mkS _ _ _ h1]; exact h2⟩
  · rintro ⟨i, h1, h2⟩
    exact ⟨i, by rw [mkS_len, mkS_len]; exact h1, by rw [subAt_mkS _ _ _ h1]; exact h2⟩
theorem CmpV.notInS {a b : Tx} : CmpV G n .NotIn (.str a) (.str b) (.bool (!subIn a b)) := by
  intro A Z s v w Q E ok zl ra rb h
  simp only [Rep] at ra rb
  obtain ⟨t, rfl⟩ := ra
  obtain ⟨u, rfl⟩ := rb
  refine PySem.P.notIn_str ?_
  rw [occ_subIn]
  exact fin0 h zl (by simp [Rep])

def sts (l : List Tx) : List PV := l.map .str
def its (l : List Int) : List PV := l.map .int
end
end Mine
namespace Mine

def clip (d : Nat) (i : Option Int) (n : Nat) : Nat := match i with
  | none => d
  | some i => min (if i < 0 then i + n else i).toNat n
def slc {α : Type} (l : List α) (lo hi : Option Int) : List α := (l.drop (clip 0 lo l.length)).take (clip l.length hi l.length - clip 0 lo l.length)

theorem clip_le {d : Nat} {i : Option Int} {n : Nat} (h : d ≤ n) : clip d i n ≤ n := by
  cases i with
  | none => exact h
  | some i => exact Nat.min_le_right _ _
theorem clip_int (i : Int) (n d : Nat) : max (0 : Int) (min (if i < 0 then i + n else i) n) = ((clip d (some i) n : Nat) : Int) := by
  simp only [clip]
  split <;> omega
theorem sliceRange_one (a b : Nat) : sliceRange a b 1 = (List.range (b - a)).map (fun k => a + k) := by
  unfold sliceRange
  have e : (if ((1 : Int) > 0) then (if (a : Int) < b then ((b : Int) - a + 1 - 1) / 1 else 0) else (if (a : Int) > b then ((a : Int) - b - 1 - 1) / (-1) else 0)).toNat = b - a := by
    rw [if_pos (by decide)]
    split
    · rw [Int.ediv_one]; omega
    · show (0 : Int).toNat = b - a
      simp only [Int.toNat_zero]
      omega
  simp only [e]
  refine List.map_congr_left fun k _ => ?_
  omega
theorem seqIndex_spec {i : Int} {n j : Nat} (h : seqIndex? i n = some j) : -(n : Int) ≤ i ∧ i < n ∧ j = (if i < 0 then i + n else i).toNat := by
  unfold seqIndex? at h
  by_cases h0 : i < 0
  · simp only [h0, if_true] at h ⊢
    split at h
    · rename_i hh
      simp only [Bool.and_eq_true, decide_eq_true_eq] at hh
      cases h
      refine ⟨by omega, by omega, rfl⟩
    · cases h
  · simp only [h0, if_false] at h ⊢
    split at h
    · rename_i hh
      simp only [Bool.and_eq_true, decide_eq_true_eq] at hh
      cases h
      refine ⟨by omega, by omega, rfl⟩
    · cases h
theorem slc_strIdx {c : Tx} (lo hi : Option Int) : (Builtin.Str.strSliceIndices lo hi 1 c.length).filterMap (c[·]?) = slc c lo hi ∧ (Builtin.Str.strSliceIndices lo hi 1 c.length).length = (slc c lo hi).length := by
  have e : Builtin.Str.strSliceIndices lo hi 1 c.length = sliceRange (clip 0 lo c.length : Nat) (clip c.length hi c.length : Nat) 1 := by
    unfold Builtin.Str.strSliceIndices
    cases lo with
    | none => cases hi with
      | none => rfl
      | some j => rw [← clip_int j c.length c.length]; rfl
    | some i => cases hi with
      | none => rw [← clip_int i c.length 0]; rfl
      | some j => rw [← clip_int i c.length 0, ← clip_int j c.length c.length]; rfl
  rw [e, sliceRange_one]
  have h1 : clip 0 lo c.length ≤ c.length := clip_le (Nat.zero_le _)
  have h2 : clip c.length hi c.length ≤ c.length := clip_le (Nat.le_refl _)
  constructor
  · exact StrLaws.picks c _ _ (by omega)
  · simp only [slc, List.length_map, List.length_range, List.length_take, List.length_drop]
    omega
theorem slc_pick {vs : List Value} (lo hi : Option Int) : slicePick vs.toArray lo hi none = (slc vs lo hi).toArray := by
  unfold slicePick
  have e : sliceBounds lo hi none vs.toArray.size = (((clip 0 lo vs.length : Nat) : Int), ((clip vs.length hi vs.length : Nat) : Int), 1) := by
    unfold sliceBounds
    simp only [Option.getD_none, List.size_toArray, Prod.mk.injEq, and_true]
    constructor
    · cases lo with
      | none => simp [clip]
      | some i => rw [← clip_int i vs.length 0]; simp
    · cases hi with
      | none => simp [clip]
      | some i => rw [← clip_int i vs.length vs.length]; simp
  rw [e, sliceRange_one]
  have h1 : clip 0 lo vs.length ≤ vs.length := clip_le (Nat.zero_le _)
  have h2 : clip vs.length hi vs.length ≤ vs.length := clip_le (Nat.le_refl _)
  congr 1
  have := StrLaws.picks vs (clip vs.length hi vs.length - clip 0 lo vs.length) (clip 0 lo vs.length) (by omega)
  rw [slc, ← this]
  simp
theorem Reps.slc {Z : Addr → Prop} {h : Heap} {xs : List PV} {vs : List Value} (r : Reps Z h xs vs) (lo hi : Option Int) : Reps Z h (slc xs lo hi) (slc vs lo hi) := by
  unfold Mine.slc
  rw [r.length]
  exact (r.drop _).take _

def getI {α : Type} (l : List α) (i : Int) : Option α := (seqIndex? i l.length).bind (l[·]?)

def pint : PV → Option Int
  | .int i => some i
  | _ => none
/-- a part of a slice -/
structure EvP (G : Gc) (n : Nat) (sc : Scope) (σ : Loc) (e : Option Expr) (i : Option Int) : Prop where
  run : ∀ (F : Fi) (A : Around) (Z W : Addr → Prop) (s : Shared) (Q : Value → Shared → Prop) (E : Value → Shared → Prop), F.sc = sc → OkA n A → St G F Z W σ s →
    (∀ v s' Z' p, Ext0 s s' → ZG Z s Z' s' → v = partValue p → p.map (·.1) = i → Q v s') → wpAny (model G.prog G.w) A (evalPart e F.env) Q E s

section
variable {G : Gc} {n : Nat} {σ : Loc} {sc : Scope}

theorem EvP.no : EvP G n sc σ none none := ⟨fun F A Z W s Q E _ _ st h => wpAny_evalPart_none (h _ _ Z none (ExtG.refl ..) (ZG.refl st.zlt) rfl rfl)⟩
theorem EvP.at {e : Expr} {i : Int} (h1 : Ev G n sc σ e (.int i)) : EvP G n sc σ (some e) (some i) := ⟨fun F A Z W s Q E hsc ok st h =>
  wpAny_evalPart_some (h1.run F A Z W s _ _ hsc ok st fun v s' Z' e z r => by
    simp only [Rep] at r
    obtain ⟨t, rfl⟩ := r
    exact h _ _ _ (.some (i, t)) e z rfl rfl)⟩

theorem isPart_of (p : Option (Int × Tok)) : IsPart (partValue p) (p.map (·.1)) := by
  cases p with
  | none => exact .none
  | some q => exact .int _ _

theorem Ev.slcS {e : Expr} {lo hi : Option Expr} {c : Tx} {i j : Option Int} {p pos} (h1 : Ev G n sc σ e (.str c)) (h2 : EvP G n sc σ lo i) (h3 : EvP G n sc σ hi j) (hl : c.length ≤ 1000000) :
    Ev G n sc σ (.Subscript e (.Slice lo hi none p) pos) (.str (slc c i j)) := by
  refine ⟨fun F A Z W s Q E hsc ok st h => ?_⟩
  refine PyProof.Rows.Subscript_ (h1.run F A Z W s _ _ hsc ok st fun v s1 Z1 e1 z1 r1 => ?_)
  have st1 := st.ext e1 z1
  refine wpAny_Slice (h2.run F A Z1 W s1 _ _ hsc ok st1 fun vl s2 Z2 pl e2 z2 hvl hl' => ?_)
  have st2 := st1.ext e2 z2
  refine h3.run F A Z2 W s2 _ _ hsc ok st2 fun vu s3 Z3 pu e3 z3 hvu hu' => ?_
  have st3 := st2.ext e3 z3
  refine wpAny_evalPart_none ?_
  simp only [Rep] at r1
  obtain ⟨t, rfl⟩ := r1
  subst hvl hvu
  refine PyProof.Rows.tail_any (typeIs_str _ _ _) PySem.F.slot_str_getitem.lookup (wpAny_getItem_str_slice (l := pl) (u := pu) (st := Option.none) ⟨_, Heap.get?_push_size _ rfl, rfl, rfl⟩ rfl ?_) rfl
  have e13 := e1.trans' (e2.trans' e3)
  have z13 := z1.trans (z2.trans z3 e2) e1
  have q := slc_strIdx (c := c) i j
  have eq1 : slicePicked (mkS c) pl pu Option.none = Builtin.Str.strSliceIndices i j 1 c.length := by
    unfold slicePicked; rw [hl', hu', mkS_len]; rfl
  have fin : ∀ (v : Value) (tk : Nat), Rep Z3 s3.heap (.str (Mine.slc c i j)) v → Q v { s3 with heap := s3.heap.push { cls := .type "slice", data := .fields #[partValue pl, partValue pu, .none] }, toks := tk } := fun v tk rv =>
    h _ _ Z3 (e13.trans' (Ext0.push s3 _ tk)) (z13.trans (ZG.same z13.lt (Ext0.push s3 _ tk)) e13) (rv.ext (Ext0.push s3 _ tk) (ZG.same z13.lt (Ext0.push s3 _ tk)))
  unfold sliceMade
  rw [eq1]
  split
  · rename_i hh
    have hlen : (Builtin.Str.strSliceIndices i j 1 c.length).length = c.length := by
      have := (Bool.and_eq_true_iff.mp hh).2
      rw [mkS_len] at this
      exact beq_iff_eq.mp this
    have : Mine.slc c i j = c := by
      rw [q.2] at hlen
      unfold Mine.slc at hlen ⊢
      rw [List.length_take, List.length_drop] at hlen
      have h1 : clip 0 i c.length ≤ c.length := clip_le (Nat.zero_le _)
      have h2 : clip c.length j c.length ≤ c.length := clip_le (Nat.le_refl _)
      have ea : clip 0 i c.length = 0 := by omega
      rw [ea, List.drop_zero, List.take_of_length_le]
      omega
    refine fin _ s3.toks ?_
    rw [this]; simp [Rep]
  · have e2' : ((Builtin.Str.strSliceIndices i j 1 c.length).filterMap ((mkS c).cps[·]?)).toArray = (Mine.slc c i j).toArray := by
      rw [← q.1]; simp [mkS]
    show (⟨_⟩ : Str).length ≤ sizeLine ∧ _
    rw [e2']
    refine ⟨?_, fin _ _ (by simp [Rep, mkS])⟩
    show (Mine.slc c i j).toArray.size ≤ sizeLine
    rw [List.size_toArray, sizeLine_eq]
    unfold Mine.slc
    rw [List.length_take, List.length_drop]
    omega

theorem Ev.slcL {e : Expr} {lo hi : Option Expr} {xs : List PV} {i j : Option Int} {p pos} (h1 : Ev G n sc σ e (.list xs)) (h2 : EvP G n sc σ lo i) (h3 : EvP G n sc σ hi j) (hl : xs.length ≤ 1000000) :
    Ev G n sc σ (.Subscript e (.Slice lo hi none p) pos) (.list (slc xs i j)) := by
  refine ⟨fun F A Z W s Q E hsc ok st h => ?_⟩
  refine PyProof.Rows.Subscript_ (h1.run F A Z W s _ _ hsc ok st fun v s1 Z1 e1 z1 r1 => ?_)
  have st1 := st.ext e1 z1
  refine wpAny_Slice (h2.run F A Z1 W s1 _ _ hsc ok st1 fun vl s2 Z2 pl e2 z2 hvl hl' => ?_)
  have st2 := st1.ext e2 z2
  refine h3.run F A Z2 W s2 _ _ hsc ok st2 fun vu s3 Z3 pu e3 z3 hvu hu' => ?_
  have st3 := st2.ext e3 z3
  refine wpAny_evalPart_none ?_
  have r3 := (r1.ext e2 z2).ext e3 z3
  simp only [Rep] at r3
  obtain ⟨a, vs, rfl, za, hL, rs⟩ := r3
  subst hvl hvu
  have hL' := hL.push { cls := .type "slice", data := .fields #[partValue pl, partValue pu, .none] }
  refine PyProof.Rows.tail_any hL'.typeIs slot_list_getitem.lookup (wpAny_getItem_list_slice hL' (lo := i) (hi := j) (st := Option.none) ⟨_, Heap.get?_push_size _ rfl, rfl, rfl⟩ (hl' ▸ isPart_of pl) (hu' ▸ isPart_of pu) .none (by decide) ?_ ?_) rfl
  · rw [slc_pick]
    have e13 := e1.trans' (e2.trans' e3)
    have z13 := z1.trans (z2.trans z3 e2) e1
    have ep := Ext0.push s3 { cls := .type "slice", data := .fields #[partValue pl, partValue pu, .none] } s3.toks
    have zp : ZG Z3 s3 Z3 { s3 with heap := s3.heap.push { cls := .type "slice", data := .fields #[partValue pl, partValue pu, .none] } } := ZG.same z13.lt ep
    have ep2 := Ext0.push { s3 with heap := s3.heap.push { cls := .type "slice", data := .fields #[partValue pl, partValue pu, .none] } } { cls := .type "list", data := .seq (Mine.slc vs i j).toArray } s3.toks
    have zp2 := ZG.push (s := { s3 with heap := s3.heap.push { cls := .type "slice", data := .fields #[partValue pl, partValue pu, .none] } }) { cls := .type "list", data := .seq (Mine.slc vs i j).toArray } s3.toks zp.lt
    refine h _ _ _ (e13.trans' (ep.trans' ep2)) (z13.trans (zp.trans zp2 ep) e13) ?_
    simp only [Rep]
    exact ⟨_, _, rfl, .inr rfl, ⟨_, Heap.get?_push_size _ rfl, rfl, _, rfl⟩, ((rs.slc i j).ext ep zp).ext ep2 zp2⟩
  · rw [List.size_toArray, rs.length, sizeLine_eq]; omega

theorem getI_reps {Z : Addr → Prop} {h : Heap} {xs : List PV} {vs : List Value} {i : Int} {x : PV} (r : Reps Z h xs vs) (hx : getI xs i = some x) : ∃ j v, seqIndex? i vs.length = some j ∧ vs[j]? = some v ∧ Rep Z h x v := by
  unfold getI at hx
  obtain ⟨j, hj, hx⟩ := Option.bind_eq_some_iff.mp hx
  obtain ⟨v, hv, rv⟩ := r.get hx
  exact ⟨j, v, by rw [r.length]; exact hj, hv, rv⟩

theorem Ev.idxS {e f : Expr} {c : Tx} {i : Int} {x : Nat} {pos} (h1 : Ev G n sc σ e (.str c)) (h2 : Ev G n sc σ f (.int i)) (hx : getI c i = some x) (hl : c.length ≤ 1000000)
    (hs : ∀ o i, subscripted f false o i = operate [o, i] (getItem o i)) : Ev G n sc σ (.Subscript e f pos) (.str [x]) := by
  refine ⟨fun F A Z W s Q E hsc ok st h => ?_⟩
  refine PyProof.Rows.Subscript_ (h1.run F A Z W s _ _ hsc ok st fun v s1 Z1 e1 z1 r1 => ?_)
  have st1 := st.ext e1 z1
  refine h2.run F A Z1 W s1 _ _ hsc ok st1 fun w s2 Z2 e2 z2 r2 => ?_
  simp only [Rep] at r1 r2
  obtain ⟨t, rfl⟩ := r1
  obtain ⟨u, rfl⟩ := r2
  have hc : Txt.charAt (mkS c) i = some x := by
    unfold Txt.charAt; rw [mkS_len]
    unfold getI at hx
    rw [← hx]; congr 1
    funext k
    simp [mkS]
  have hb : -(c.length : Int) ≤ i ∧ i < c.length := by
    obtain ⟨j, hj, _⟩ := Option.bind_eq_some_iff.mp hx
    have := seqIndex_spec hj
    exact ⟨this.1, this.2.1⟩
  have hr : fitsSsize i = true := by
    unfold fitsSsize
    simp only [Bool.not_eq_true', Bool.or_eq_false_iff, decide_eq_false_iff_not]
    omega
  refine PyProof.Rows.tail_any (typeIs_str _ _ _) PySem.F.slot_str_getitem.lookup (SB.getItem hr (by rw [hc]; rfl) ?_) (hs _ _)
  have e12 := e1.trans' e2
  have z12 := z1.trans z2 e1
  have ex : Txt.item (mkS c) i = mkS [x] := by unfold Txt.item; rw [hc]; rfl
  rw [ex]
  exact h _ _ Z2 (e12.trans' (Ext0.tok s2 _)) (z12.trans (ZG.same z12.lt (Ext0.tok _ _)) e12) (by simp [Rep])

theorem Ev.idxL {e f : Expr} {xs : List PV} {i : Int} {x : PV} {pos} (h1 : Ev G n sc σ e (.list xs)) (h2 : Ev G n sc σ f (.int i)) (hx : getI xs i = some x) (hl : xs.length ≤ 1000000)
    (hs : ∀ o i, subscripted f false o i = operate [o, i] (getItem o i)) : Ev G n sc σ (.Subscript e f pos) x := by
  refine ⟨fun F A Z W s Q E hsc ok st h => ?_⟩
  refine PyProof.Rows.Subscript_ (h1.run F A Z W s _ _ hsc ok st fun v s1 Z1 e1 z1 r1 => ?_)
  have st1 := st.ext e1 z1
  refine h2.run F A Z1 W s1 _ _ hsc ok st1 fun w s2 Z2 e2 z2 r2 => ?_
  have r1 := r1.ext e2 z2
  simp only [Rep] at r1 r2
  obtain ⟨u, rfl⟩ := r2
  obtain ⟨a, vs, rfl, za, hL, rs⟩ := r1
  obtain ⟨j, v, hj, hv, rv⟩ := getI_reps rs hx
  have e12 := e1.trans' e2
  have z12 := z1.trans z2 e1
  have hlen : vs.length ≤ 1000000 := by rw [rs.length]; exact hl
  refine PyProof.Rows.tail_any hL.typeIs slot_list_getitem.lookup ?_ (hs _ _)
  obtain ⟨b1, b2, rfl⟩ := seqIndex_spec hj
  by_cases h0 : i < 0
  · rw [if_pos h0] at hv
    exact wpAny_getItem_list_neg hL h0 (by rw [List.size_toArray]; omega) (by omega) (by simpa using hv) (h _ _ Z2 e12 z12 rv)
  · rw [if_neg h0] at hv
    exact wpAny_getItem_list hL (by omega) (by omega) (by simpa using hv) (h _ _ Z2 e12 z12 rv)

theorem Ev.idxT {e f : Expr} {xs : List PV} {i : Int} {x : PV} {pos} (h1 : Ev G n sc σ e (.tup xs)) (h2 : Ev G n sc σ f (.int i)) (hx : getI xs i = some x) (hl : xs.length ≤ 1000000)
    (hs : ∀ o i, subscripted f false o i = operate [o, i] (getItem o i)) : Ev G n sc σ (.Subscript e f pos) x := by
  refine ⟨fun F A Z W s Q E hsc ok st h => ?_⟩
  refine PyProof.Rows.Subscript_ (h1.run F A Z W s _ _ hsc ok st fun v s1 Z1 e1 z1 r1 => ?_)
  have st1 := st.ext e1 z1
  refine h2.run F A Z1 W s1 _ _ hsc ok st1 fun w s2 Z2 e2 z2 r2 => ?_
  have r1 := r1.ext e2 z2
  simp only [Rep] at r1 r2
  obtain ⟨u, rfl⟩ := r2
  obtain ⟨a, vs, rfl, za, hL, rs⟩ := r1
  obtain ⟨j, v, hj, hv, rv⟩ := getI_reps rs hx
  have e12 := e1.trans' e2
  have z12 := z1.trans z2 e1
  have hlen : vs.length ≤ 1000000 := by rw [rs.length]; exact hl
  have hb : -(vs.length : Int) ≤ i ∧ i < vs.length := by
    have := seqIndex_spec hj
    exact ⟨this.1, this.2.1⟩
  exact PyProof.Rows.item_tupleT hL (by omega) (by omega) hj hv (h _ _ Z2 e12 z12 rv) (hs _ _)

/-! composite expressions -/
theorem Ev.bin {l r : Expr} {op : Operator} {a b c : PV} {pos} (h1 : Ev G n sc σ l a) (h2 : Ev G n sc σ r b) (h3 : BinV G n op a b c) : Ev G n sc σ (.BinOp l op r pos) c := by
  refine ⟨fun F A Z W s Q E hsc ok st h => ?_⟩
  refine wpAny_BinOp (h1.run F A Z W s _ _ hsc ok st fun v s1 Z1 e1 z1 r1 => ?_)
  have st1 := st.ext e1 z1
  refine h2.run F A Z1 W s1 _ _ hsc ok st1 fun w s2 Z2 e2 z2 r2 => ?_
  refine h3 A Z2 s2 v w _ _ ok z2.lt (r1.ext e2 z2) r2 fun x s3 Z3 e3 z3 r3 => ?_
  exact h _ _ Z3 (e1.trans' (e2.trans' e3)) (z1.trans (z2.trans z3 e2) e1) r3
theorem Ev.cmp {l r : Expr} {op : CmpOp} {a b c : PV} {pos} (h1 : Ev G n sc σ l a) (h2 : Ev G n sc σ r b) (h3 : CmpV G n op a b c) (hm : behindInMarks op r = false) : Ev G n sc σ (.Compare l [op] [r] pos) c := by
  refine ⟨fun F A Z W s Q E hsc ok st h => ?_⟩
  refine wpAny_Compare1 (h1.run F A Z W s _ _ hsc ok st fun v s1 Z1 e1 z1 r1 => ?_) hm
  have st1 := st.ext e1 z1
  refine h2.run F A Z1 W s1 _ _ hsc ok st1 fun w s2 Z2 e2 z2 r2 => ?_
  refine h3 A Z2 s2 v w _ _ ok z2.lt (r1.ext e2 z2) r2 fun x s3 Z3 e3 z3 r3 => ?_
  exact h _ _ Z3 (e1.trans' (e2.trans' e3)) (z1.trans (z2.trans z3 e2) e1) r3
theorem EvT.cmp {l r : Expr} {op : CmpOp} {a b : PV} {c : Bool} {pos} (h1 : Ev G n sc σ l a) (h2 : Ev G n sc σ r b) (h3 : CmpV G n op a b (.bool c)) (hm : behindInMarks op r = false) : EvT G n sc σ (.Compare l [op] [r] pos) c := by
  refine ⟨fun F A Z W s Q E hsc ok st h => ?_⟩
  refine wpAny_isTrue_Compare1 (h1.run F A Z W s _ _ hsc ok st fun v s1 Z1 e1 z1 r1 => ?_) hm
  have st1 := st.ext e1 z1
  refine h2.run F A Z1 W s1 _ _ hsc ok st1 fun w s2 Z2 e2 z2 r2 => ?_
  refine h3 A Z2 s2 v w _ _ ok z2.lt (r1.ext e2 z2) r2 fun x s3 Z3 e3 z3 r3 => ?_
  simp only [Rep] at r3
  subst r3
  exact wpAny_truthy_bool (h _ Z3 (e1.trans' (e2.trans' e3)) (z1.trans (z2.trans z3 e2) e1))
theorem Ev.neg {e : Expr} {i : Int} {pos} (h1 : Ev G n sc σ e (.int i)) : Ev G n sc σ (.UnaryOp .USub e pos) (.int (-i)) := by
  refine ⟨fun F A Z W s Q E hsc ok st h => ?_⟩
  refine wpAny_UnaryOp (h1.run F A Z W s _ _ hsc ok st fun v s1 Z1 e1 z1 r1 => ?_)
  simp only [Rep] at r1
  obtain ⟨t, rfl⟩ := r1
  exact PySem.P.neg_int (h _ _ Z1 (e1.trans' (Ext0.tok s1 _)) (z1.trans (ZG.same z1.lt (Ext0.tok _ _)) e1) (by simp [Rep]))
theorem Ev.ite {t a b : Expr} {c : Bool} {x : PV} {pos} (h1 : EvT G n sc σ t c) (h2 : c = true → Ev G n sc σ a x) (h3 : c = false → Ev G n sc σ b x) : Ev G n sc σ (.IfExp t a b pos) x := by
  refine ⟨fun F A Z W s Q E hsc ok st h => ?_⟩
  refine wpAny_IfExp (h1.run F A Z W s _ _ hsc ok st fun s1 Z1 e1 z1 => ?_)
  have st1 := st.ext e1 z1
  cases c with
  | true => exact (h2 rfl).run F A Z1 W s1 _ _ hsc ok st1 fun v s2 Z2 e2 z2 r2 => h _ _ Z2 (e1.trans' e2) (z1.trans z2 e1) r2
  | false => exact (h3 rfl).run F A Z1 W s1 _ _ hsc ok st1 fun v s2 Z2 e2 z2 r2 => h _ _ Z2 (e1.trans' e2) (z1.trans z2 e1) r2

/-- a list of tests -/
structure EvA (G : Gc) (n : Nat) (sc : Scope) (σ : Loc) (op : BoolOp) (es : List Expr) (b : Bool) : Prop where
  run : ∀ (F : Fi) (A : Around) (Z W : Addr → Prop) (s : Shared) (Q : Bool → Shared → Prop) (E : Value → Shared → Prop), F.sc = sc → OkA n A → St G F Z W σ s →
    (∀ s' Z', Ext0 s s' → ZG Z s Z' s' → Q b s') → wpAny (model G.prog G.w) A (allTrue op es F.env) Q E s
theorem EvA.and0 : EvA G n sc σ .And [] true := ⟨fun F A Z W s Q E _ _ st h => wpAny_allTrue_And_nil (h _ Z (ExtG.refl ..) (ZG.refl st.zlt))⟩
theorem EvA.or0 : EvA G n sc σ .Or [] false := ⟨fun F A Z W s Q E _ _ st h => wpAny_allTrue_Or_nil (h _ Z (ExtG.refl ..) (ZG.refl st.zlt))⟩
theorem EvA.and {e : Expr} {es : List Expr} {a b : Bool} (h1 : EvT G n sc σ e a) (h2 : a = true → EvA G n sc σ .And es b) : EvA G n sc σ .And (e :: es) (a && b) := by
  refine ⟨fun F A Z W s Q E hsc ok st h => ?_⟩
  refine wpAny_allTrue_And_cons (h1.run F A Z W s _ _ hsc ok st fun s1 Z1 e1 z1 => ?_)
  cases a with
  | false => exact h _ Z1 e1 z1
  | true => exact (h2 rfl).run F A Z1 W s1 _ _ hsc ok (st.ext e1 z1) fun s2 Z2 e2 z2 => h _ Z2 (e1.trans' e2) (z1.trans z2 e1)
theorem EvA.or {e : Expr} {es : List Expr} {a b : Bool} (h1 : EvT G n sc σ e a) (h2 : a = false → EvA G n sc σ .Or es b) : EvA G n sc σ .Or (e :: es) (a || b) := by
  refine ⟨fun F A Z W s Q E hsc ok st h => ?_⟩
  refine wpAny_allTrue_Or_cons (h1.run F A Z W s _ _ hsc ok st fun s1 Z1 e1 z1 => ?_)
  cases a with
  | true => exact h _ Z1 e1 z1
  | false => exact (h2 rfl).run F A Z1 W s1 _ _ hsc ok (st.ext e1 z1) fun s2 Z2 e2 z2 => h _ Z2 (e1.trans' e2) (z1.trans z2 e1)
theorem EvT.bools {op : BoolOp} {es : List Expr} {b : Bool} {pos} (h1 : EvA G n sc σ op es b) : EvT G n sc σ (.BoolOp op es pos) b :=
  ⟨fun F A Z W s Q E hsc ok st h => wpAny_isTrue_BoolOp (h1.run F A Z W s _ _ hsc ok st h)⟩

def pTrue : PV → Option Bool
  | .none => some false
  | .bool b => some b
  | .int i => some (i != 0)
  | .str c => some (!c.isEmpty)
  | .list xs => some (!xs.isEmpty)
  | _ => none
theorem EvT.val {e : Expr} {x : PV} {b : Bool} (h1 : Ev G n sc σ e x) (hb : pTrue x = some b) (hl : ∀ c, x = .str c → c.length ≤ 1000000) (hl2 : ∀ c, x = .list c → c.length ≤ 1000000)
    (he : ∀ env, isTrue e env (eval e env) = (do let v ← eval e env; standAt e.pos; holding [v] (truthy v))) : EvT G n sc σ e b := by
  refine ⟨fun F A Z W s Q E hsc ok st h => ?_⟩
  refine wpAny_isTrue_value (h1.run F A Z W s _ _ hsc ok st fun v s1 Z1 e1 z1 r1 => ?_) (he _)
  have fin : ∀ tk, Q b { s1 with toks := tk } := fun tk => h _ Z1 (e1.trans' (Ext0.tok s1 tk)) (z1.trans (ZG.same z1.lt (Ext0.tok _ _)) e1)
  cases x with
  | none =>
    simp only [Rep] at r1; subst r1; cases hb
    exact fun _ _ _ => fin s1.toks
  | bool c => simp only [Rep] at r1; subst r1; cases hb; exact wpAny_truthy_bool (fin s1.toks)
  | int i => simp only [Rep] at r1; obtain ⟨t, rfl⟩ := r1; cases hb; exact PySem.P.truthy_int (fin s1.toks)
  | str c =>
    simp only [Rep] at r1; obtain ⟨t, rfl⟩ := r1; cases hb
    have := hl c rfl
    refine PyProof.Rows.SBL.truthy (by rw [mkS_len]; omega) ?_
    have e : (((mkS c).length : Int) != 0) = !c.isEmpty := by
      rw [mkS_len]; cases c <;> simp <;> omega
    rw [e]; exact fin _
  | list xs =>
    simp only [Rep] at r1; obtain ⟨a, vs, rfl, za, hL, rs⟩ := r1; cases hb
    have := hl2 xs rfl
    have hlen := rs.length
    refine wpAny_truthy_list hL (by rw [List.size_toArray]; omega) ?_
    have e : (!vs.toArray.isEmpty) = !xs.isEmpty := by
      cases xs <;> cases vs <;> simp at hlen ⊢
    rw [e]; exact fin _
  | _ => cases hb
end
end Mine
namespace Mine

def usedB : List Str := ["len", "range", "chr", "ord", "list", "isinstance", "bool", "min", "max", "enumerate", "ValueError"]

/-- the call's ground: the top's part stands -/
structure Bs (G : Gc) (s : Shared) : Prop where
  base : ∀ b o, G.base.get? b = some o → s.heap.get? b = some o
  bare : AllBare s.gens
theorem Bs.ext {G : Gc} {s s' : Shared} (x : Bs G s) (e : Ext0 s s') : Bs G s' := ⟨fun b o h => e.keep' b o (x.base b o h), e.bare x.bare⟩
theorem St.bs {G : Gc} {F : Fi} {Z W : Addr → Prop} {σ : Loc} {s : Shared} (x : St G F Z W σ s) : Bs G s :=
  ⟨x.base, x.bare⟩

def CallV (G : Gc) (n : Nat) (f : Value) (xs : List PV) (c : PV) : Prop :=
  ∀ (A : Around) (Z : Addr → Prop) (s : Shared) (vs : List Value) (Q : Value → Shared → Prop) (E : Value → Shared → Prop), OkA n A → Bs G s → (Liv Z s.heap) →
    Reps Z s.heap xs vs → (∀ r s' Z', Ext0 s s' → ZG Z s Z' s' → Rep Z' s'.heap c r → Q r s') → wpAny (model G.prog G.w) A (call f vs) Q E s

def NoB (G : Gc) : Prop := ∀ x ∈ usedB, G.mg x = none

section
variable {G : Gc} {n : Nat} {σ : Loc} {sc : Scope}

theorem evBuiltin {x : Str} {pos} {v : Value} (hk : sc.names.lookup x = some .globalImplicit) (nb : NoB G) (hx : x ∈ usedB) (hb : bootBuiltins x = some v) (hn : x ≠ "__name__") (hd : (x == ("__debug__" : Str)) = false)
    {F : Fi} {A : Around} {Z W : Addr → Prop} {s : Shared} {Q : Value → Shared → Prop} {E : Value → Shared → Prop} (hsc : F.sc = sc) (st : St G F Z W σ s) (h : Q v s) : wpAny (model G.prog G.w) A (eval (.Name x pos) F.env) Q E s :=
  Calls.Name_function_global (env := F.env) st.kind (by show F.sc.names.lookup x = _; rw [hsc]; exact hk)
    (Calls.loadGlobal_builtin (env := F.env) (G.top.g.keeps st.base) (nb x hx) (G.top.b.keeps st.base) ((G.top.builtins x hn).trans hb) h) hd
theorem evGlobal {x : Str} {pos} {v : Value} (hk : sc.names.lookup x = some .globalImplicit) (hv : G.mg x = some v) (hd : (x == ("__debug__" : Str)) = false)
    {F : Fi} {A : Around} {Z W : Addr → Prop} {s : Shared} {Q : Value → Shared → Prop} {E : Value → Shared → Prop} (hsc : F.sc = sc) (st : St G F Z W σ s) (h : Q v s) : wpAny (model G.prog G.w) A (eval (.Name x pos) F.env) Q E s :=
  Calls.Name_function_global (env := F.env) st.kind (by show F.sc.names.lookup x = _; rw [hsc]; exact hk)
    (Calls.loadGlobal_global (env := F.env) (G.top.g.keeps st.base) hv h) hd

theorem Ev.callB {x : Str} {id : String} {e : Expr} {es : List Expr} {xs : List PV} {c : PV} {p pos : Pos} (nb : NoB G) (hb : bootBuiltins x = some (.builtin id)) (hx : x ∈ usedB) (hn : x ≠ "__name__") (hd : (x == ("__debug__" : Str)) = false)
    (hk : sc.names.lookup x = some .globalImplicit) (h1 : EvL G n sc σ (e :: es) xs) (h2 : CallV G n (.builtin id) xs c)
    (he : ∀ env pos, backTo pos (starEach (e :: es) env) = (false, eval e env) :: backTo pos (starEach es env)) (hs : ∀ env pos, (backTo pos (starEach (e :: es) env)).any (·.1) = false) :
    Ev G n sc σ (.Call (.Name x p) (e :: es) [] pos) c := by
  refine ⟨fun F A Z W s Q E hsc ok st h => ?_⟩
  refine wpAny_Call_NameR (evBuiltin hk nb hx hb hn hd hsc st ?_)
  refine Calls.callWith_builtin (hs _ _) ?_
  rw [he]
  refine Calls.evalArgs_plain ?_
  rw [← he]
  refine h1.run F A Z W s _ _ pos hsc ok st fun vs s1 Z1 e1 z1 r1 => ?_
  exact h2 A Z1 s1 vs _ _ ok (st.bs.ext e1) z1.lt r1 fun r s2 Z2 e2 z2 r2 => h _ _ Z2 (e1.trans' e2) (z1.trans z2 e1) r2
theorem Ev.callT {x : Str} {T : String} {e : Expr} {es : List Expr} {xs : List PV} {c : PV} {p pos : Pos} (nb : NoB G) (hb : bootBuiltins x = some (.type T)) (hx : x ∈ usedB) (hn : x ≠ "__name__") (hd : (x == ("__debug__" : Str)) = false)
    (hk : sc.names.lookup x = some .globalImplicit) (h1 : EvL G n sc σ (e :: es) xs) (h2 : CallV G n (.type T) xs c)
    (he : ∀ env pos, backTo pos (starEach (e :: es) env) = (false, eval e env) :: backTo pos (starEach es env)) (hs : ∀ env pos, (backTo pos (starEach (e :: es) env)).any (·.1) = false) :
    Ev G n sc σ (.Call (.Name x p) (e :: es) [] pos) c := by
  refine ⟨fun F A Z W s Q E hsc ok st h => ?_⟩
  refine wpAny_Call_NameR (evBuiltin hk nb hx hb hn hd hsc st ?_)
  refine PyProof.Rows.callWith_type (hs _ _) ?_
  rw [he]
  refine Calls.evalArgs_plain ?_
  rw [← he]
  refine h1.run F A Z W s _ _ pos hsc ok st fun vs s1 Z1 e1 z1 r1 => ?_
  exact h2 A Z1 s1 vs _ _ ok (st.bs.ext e1) z1.lt r1 fun r s2 Z2 e2 z2 r2 => h _ _ Z2 (e1.trans' e2) (z1.trans z2 e1) r2

/-- a def of the text -/
def Fn (G : Gc) (n : Nat) (name : Str) (xs : List PV) (c : PV) : Prop := ∀ a, G.mg name = some (.ref a) → CallV G n (.ref a) xs c

theorem Ev.callF {x : Str} {d : DefRec} {e : Expr} {es : List Expr} {xs : List PV} {c : PV} {p pos : Pos} (hd : (x == ("__debug__" : Str)) = false)
    (hk : sc.names.lookup x = some .globalImplicit) (h1 : EvL G n sc σ (e :: es) xs) (hm : d ∈ recsOf G.p) (hx : d.name = x) (h2 : Fn G n x xs c)
    (he : ∀ env pos, backTo pos (starEach (e :: es) env) = (false, eval e env) :: backTo pos (starEach es env)) :
    Ev G n sc σ (.Call (.Name x p) (e :: es) [] pos) c := by
  refine ⟨fun F A Z W s Q E hsc ok st h => ?_⟩
  obtain ⟨a, o, pm, code, doc, ha, ho, hdat, hcd⟩ := G.top.fn d hm
  rw [hx] at ha
  refine wpAny_Call_NameR (evGlobal hk ha hd hsc st ?_)
  refine Calls.callWith_function (o := o) (fd := Calls.docDef d.name d.params d.body d.scope pm code doc) ?_
  rw [he]
  refine Calls.evalArgs_plain ?_
  rw [← he]
  refine h1.run F A Z W s _ _ pos hsc ok st fun vs s1 Z1 e1 z1 r1 => ?_
  refine ⟨⟨e1.keep' _ _ (st.base _ _ ho), hdat⟩, ?_⟩
  exact h2 a ha A Z1 s1 vs _ _ ok (st.bs.ext e1) z1.lt r1 fun r s2 Z2 e2 z2 r2 => h _ _ Z2 (e1.trans' e2) (z1.trans z2 e1) r2

/-- a constant of the text -/
theorem Ev.const {x : Str} {d : PyData} {pv : PV} {pos} (hk : sc.names.lookup x = some .globalImplicit) (hd : (x == ("__debug__" : Str)) = false) (hv : valOf G.p x = some d)
    (hr : ∀ v, (∀ h' : Heap, Reads h' v d []) → ∀ Z h, Rep Z h pv v) : Ev G n sc σ (.Name x pos) pv := by
  refine ⟨fun F A Z W s Q E hsc ok st h => ?_⟩
  obtain ⟨v, hm, hr'⟩ := G.top.const x d hv
  exact evGlobal hk hm hd hsc st (h v s Z (ExtG.refl ..) (ZG.refl st.zlt) (hr v hr' Z s.heap))
theorem reads_int {v : Value} {i : Int} (h : ∀ h' : Heap, Reads h' v (.int i) []) (Z : Addr → Prop) (hp : Heap) : Rep Z hp (.int i) v := by
  have := h hp
  cases this with
  | int i t => simp [Rep]
theorem reads_str {v : Value} {x : Str} {c : Tx} (hx : x = mkS c) (h : ∀ h' : Heap, Reads h' v (.str x) []) (Z : Addr → Prop) (hp : Heap) : Rep Z hp (.str c) v := by
  have := h hp
  cases this with
  | str x t => simp [Rep, hx]

/-! built-in calls -/
theorem CallV.lenS {c : Tx} (hl : c.length ≤ 1000000) : CallV G n (.builtin "len") [.str c] (.int c.length) := by
  intro A Z s vs Q E ok bs zl r h
  simp only [Reps, Rep] at r
  obtain ⟨v, ws, rfl, ⟨t, rfl⟩, rfl⟩ := r
  refine PySem.P.len_str (by rw [mkS_len]; omega) ?_
  rw [mkS_len]
  exact finT h zl (by simp [Rep])
theorem CallV.lenL {xs : List PV} (hl : xs.length ≤ 1000000) : CallV G n (.builtin "len") [.list xs] (.int xs.length) := by
  intro A Z s vs Q E ok bs zl r h
  simp only [Reps, Rep] at r
  obtain ⟨v, ws, rfl, ⟨a, us, rfl, za, hL, rs⟩, rfl⟩ := r
  have := rs.length
  refine PyProof.Rows.len_list hL (by rw [List.size_toArray]; omega) ?_
  rw [List.size_toArray, this]
  exact finT h zl (by simp [Rep])
theorem CallV.chr {i : Int} (h0 : 0 ≤ i) (h1 : i ≤ 1114111) : CallV G n (.builtin "chr") [.int i] (.str [i.toNat]) := by
  intro A Z s vs Q E ok bs zl r h
  simp only [Reps, Rep] at r
  obtain ⟨v, ws, rfl, ⟨t, rfl⟩, rfl⟩ := r
  exact PyProof.Rows.chr_of_range h0 h1 (finT h zl (by simp [Rep, mkS]))
theorem CallV.ord {x : Nat} : CallV G n (.builtin "ord") [.str [x]] (.int x) := by
  intro A Z s vs Q E ok bs zl r h
  simp only [Reps, Rep] at r
  obtain ⟨v, ws, rfl, ⟨t, rfl⟩, rfl⟩ := r
  exact PySem.P.ord_of_char (finT h zl (by simp [Rep]))

/-- a new list at the heap's end -/
theorem finL {Z : Addr → Prop} {s : Shared} {xs : List PV} {vs : List Value} {h' : Heap} {tk c' : Nat} {Q : Value → Shared → Prop} (h : ∀ r s' Z', Ext0 s s' → ZG Z s Z' s' → Rep Z' s'.heap (.list xs) r → Q r s')
    (zl : Liv Z s.heap) (hk : ∀ b o, s.heap.get? b = some o → h'.get? b = some o) (hD : h'.get? s.heap.objs.size = some { cls := .type "list", dict := none, data := .seq vs.toArray c', slots := #[] })
    (r : Reps Z h' xs vs) : Q (.ref s.heap.objs.size) { s with heap := h', toks := tk } := by
  refine h _ _ (fun b => Z b ∨ b = s.heap.objs.size) (Ext0.heap hk) (ZG.one zl (Ext0.heap (tk := tk) hk) (none_size _) hD) ?_
  simp only [Rep]
  exact ⟨_, vs, rfl, .inr rfl, ⟨_, hD, rfl, _, rfl⟩, r.mono (fun _ z => .inl z) fun _ _ _ e => e⟩

theorem CallV.listL {xs : List PV} (hl : xs.length ≤ 1000000) : CallV G n (.type "list") [.list xs] (.list xs) := by
  intro A Z s vs Q E ok bs zl r h
  simp only [Reps, Rep] at r
  obtain ⟨v, ws, rfl, ⟨a, us, rfl, za, ⟨o, ho, hc, m, hd⟩, rs⟩, rfl⟩ := r
  have := rs.length
  exact call_list_seq (hsz := by rw [List.size_toArray, sizeLine_eq]; omega) a (.inl rfl) ho hc hd fun h' c' hk hD => finL (tk := s.toks) h zl hk hD (rs.mono (fun _ z => z) fun b o _ e => hk b o e)

def rangeL (lo hi st : Int) : List PV := (List.range (Builtin.Range.rangeSize lo hi st).toNat).map fun (k : Nat) => .int (lo + (k : Int) * st)

theorem CallV.range1 {i : Int} : CallV G n (.type "range") [.int i] (.rng 0 i 1) := by
  intro A Z s vs Q E ok bs zl r h
  simp only [Reps, Rep] at r
  obtain ⟨v, ws, rfl, ⟨t, rfl⟩, rfl⟩ := r
  refine call_range_1 (h _ _ _ (Ext0.push ..) (ZG.push _ _ zl) ?_)
  simp only [Rep]
  exact ⟨_, _, _, _, rfl, .inr rfl, IsRange.new ..⟩
theorem CallV.range2 {i j : Int} : CallV G n (.type "range") [.int i, .int j] (.rng i j 1) := by
  intro A Z s vs Q E ok bs zl r h
  simp only [Reps, Rep] at r
  obtain ⟨v, ws, rfl, ⟨t, rfl⟩, w, us, rfl, ⟨u, rfl⟩, rfl⟩ := r
  refine call_range_2 (h _ _ _ (Ext0.push ..) (ZG.push _ _ zl) ?_)
  simp only [Rep]
  exact ⟨_, _, _, _, rfl, .inr rfl, IsRange.new ..⟩
theorem CallV.range3 {i j k : Int} (hk : k ≠ 0) (hp : Builtin.divisionGoesByPylong (j - i) k = false) : CallV G n (.type "range") [.int i, .int j, .int k] (.rng i j k) := by
  intro A Z s vs Q E ok bs zl r h
  simp only [Reps, Rep] at r
  obtain ⟨v, ws, rfl, ⟨t, rfl⟩, w, us, rfl, ⟨u, rfl⟩, x, ys, rfl, ⟨y, rfl⟩, rfl⟩ := r
  refine call_range_3 hk (h _ _ _ (Ext0.push ..) (ZG.push _ _ zl) ?_) (.inl hp)
  simp only [Rep]
  exact ⟨_, _, _, _, rfl, .inr rfl, IsRange.new ..⟩
theorem CallV.max2 {i j : Int} : CallV G n (.builtin "max") [.int i, .int j] (.int (max i j)) := by
  intro A Z s vs Q E ok bs zl r h
  simp only [Reps, Rep] at r
  obtain ⟨v, ws, rfl, ⟨t, rfl⟩, w, us, rfl, ⟨u, rfl⟩, rfl⟩ := r
  refine max_two_ints ok.1 fun h' tk hk => ?_
  refine h _ _ Z (Ext0.heap hk) (ZG.same zl (Ext0.heap (tk := tk) hk)) ?_
  by_cases q : j > i
  · rw [if_pos q]; simp only [Rep]; exact ⟨u, by rw [Int.max_eq_right (by omega)]⟩
  · rw [if_neg q]; simp only [Rep]; exact ⟨t, by rw [Int.max_eq_left (by omega)]⟩
theorem Ev.isBool {e : Expr} {i : Int} {x y : Str} {p q pos : Pos} (nb : NoB G) (hx : x = ("isinstance" : Str)) (hy : y = ("bool" : Str))
    (hk : sc.names.lookup x = some .globalImplicit) (hk' : sc.names.lookup y = some .globalImplicit) (h1 : Ev G n sc σ e (.int i))
    (he : ∀ env pos, backTo pos (starEach [e, .Name y q] env) = [(false, eval e env), (false, eval (.Name y q) env)]) :
    Ev G n sc σ (.Call (.Name x p) [e, .Name y q] [] pos) (.bool false) := by
  subst hx hy
  refine ⟨fun F A Z W s Q E hsc ok st h => ?_⟩
  refine wpAny_Call_NameR (evBuiltin hk nb (by decide) PyProof.Rows.boot_isinstance (by decide) (by decide) hsc st ?_)
  rw [he]
  refine Calls.callWith_builtin rfl (Calls.evalArgs_plain (Calls.spliced_cons (h1.run F A Z W s _ _ hsc ok st fun v s1 Z1 e1 z1 r1 => ?_)))
  refine Calls.spliced_cons (evBuiltin hk' nb (by decide) PyProof.Rows.boot_bool (by decide) (by decide) hsc (st.ext e1 z1) ?_)
  refine Calls.spliced_nil ?_
  simp only [Rep] at r1
  obtain ⟨t, rfl⟩ := r1
  exact IsiPair.int_bool (h _ _ Z1 (e1.trans' (Ext0.tok s1 _)) (z1.trans (ZG.same z1.lt (Ext0.tok _ _)) e1) (by simp [Rep]))
end
end Mine
namespace Mine

/-- what a statement leaves: the heap stands outside of what the frame may write -/
structure Gr (Z W : Addr → Prop) (s : Shared) (Z' W' : Addr → Prop) (s' : Shared) : Prop where
  ext : ExtG W no s s'
  zs : ∀ b, Z b → Z' b
  zw : ∀ b, Z' b → Z b ∨ W b ∨ s.heap.get? b = none
  wg : ∀ b, W' b → W b ∨ s.heap.get? b = none

theorem Gr.refl (Z W : Addr → Prop) (s : Shared) : Gr Z W s Z W s := ⟨ExtG.refl .., fun _ z => z, fun _ z => .inl z, fun _ w => .inl w⟩
theorem Gr.trans {Z W Z1 W1 Z2 W2 : Addr → Prop} {s s1 s2 : Shared} (x : Gr Z W s Z1 W1 s1) (y : Gr Z1 W1 s1 Z2 W2 s2) : Gr Z W s Z2 W2 s2 where
  ext := x.ext.trans y.ext x.wg (fun _ h => h.elim)
  zs := fun b z => y.zs b (x.zs b z)
  zw := fun b z => (y.zw b z).elim (fun z => x.zw b z) fun q => q.elim (fun w => .inr (x.wg b w)) fun d => (x.ext.dead d).elim (fun d => .inr (.inr d)) fun w => .inr (.inl w)
  wg := fun b w => (y.wg b w).elim (fun w => x.wg b w) fun d => (x.ext.dead d).elim .inr .inl
theorem Gr.of {Z W Z' : Addr → Prop} {s s' : Shared} (e : Ext0 s s') (z : ZG Z s Z' s') : Gr Z W s Z' W s' :=
  ⟨e.any, z.sub, fun b h => (z.new b h).elim .inl fun d => .inr (.inr d), fun _ w => .inl w⟩

inductive Out where
  | next (σ : Loc)
  | brk (σ : Loc)
  | cont (σ : Loc)
  | ret (x : PV)

def OutAt (G : Gc) (F : Fi) (Z W : Addr → Prop) (o : Out) (fl : Flow) (s : Shared) : Prop :=
  match o with
  | .next σ => fl = .next ∧ St G F Z W σ s
  | .brk σ => fl = .brk ∧ St G F Z W σ s
  | .cont σ => fl = .cont ∧ St G F Z W σ s
  | .ret x => ∃ v, fl = .ret v ∧ Rep Z s.heap x v ∧ St G F Z W [] s

structure Ex (G : Gc) (n : Nat) (sc : Scope) (σ : Loc) (ss : List Stmt) (o : Out) : Prop where
  run : ∀ (F : Fi) (A : Around) (Z W : Addr → Prop) (s : Shared) (Q : Flow → Shared → Prop) (E : Value → Shared → Prop), F.sc = sc → F.own = true → OkA n A → St G F Z W σ s →
    (∀ fl s' Z' W', Gr Z W s Z' W' s' → OutAt G F Z' W' o fl s' → Q fl s') → wpAny (model G.prog G.w) A (execs ss F.env) Q E s
structure Ex1 (G : Gc) (n : Nat) (sc : Scope) (σ : Loc) (st : Stmt) (o : Out) : Prop where
  run : ∀ (F : Fi) (A : Around) (Z W : Addr → Prop) (s : Shared) (Q : Flow → Shared → Prop) (E : Value → Shared → Prop), F.sc = sc → F.own = true → OkA n A → St G F Z W σ s →
    (∀ fl s' Z' W', Gr Z W s Z' W' s' → OutAt G F Z' W' o fl s' → Q fl s') → wpAny (model G.prog G.w) A (exec st F.env) Q E s

theorem ns_same {h : Heap} {a : Addr} {m m' : Str → Option Value} (x : h.Ns a m) (y : h.Ns a m') (n : Str) : m n = m' n := by
  obtain ⟨o, es, ep, e1, e2, _, e3⟩ := x
  obtain ⟨o', es', ep', d1, d2, _, d3⟩ := y
  rw [e1] at d1; cases d1
  rw [e2] at d2; cases d2
  rw [← e3, ← d3]

theorem lookup_cons_self {α : Type} (x : Str) (v : α) (l : List (Str × α)) : List.lookup x ((x, v) :: l) = some v := by simp [List.lookup]
theorem lookup_cons_ne {α : Type} {x y : Str} (v : α) (l : List (Str × α)) (h : y ≠ x) : List.lookup y ((x, v) :: l) = l.lookup y := by
  rw [List.lookup_cons, beq_eq_false_iff_ne.mpr h]

section
variable {G : Gc} {F : Fi} {Z W : Addr → Prop} {σ : Loc} {s : Shared}

/-- the frame after a local name has been stored: all but the values -/
theorem St.local_ (st : St G F Z W σ s) {h' : Heap} {tk : Nat} {m' : Str → Option Value} (hn : h'.Ns F.L m') (hs : Heap.SameBut F.L s.heap h') : Gr Z W s Z W { s with heap := h', toks := tk } ∧
    St G F Z W [] { s with heap := h', toks := tk } := by
  have live : ∀ b o, s.heap.get? b = some o → ∃ o', h'.get? b = some o' := fun b o e => by
    by_cases q : b = F.L
    · obtain ⟨o', _, _, e', _⟩ := hn; exact ⟨o', q ▸ e'⟩
    · exact ⟨o, (hs.2 b q).trans e⟩
  have hne : ∀ b, ¬ W b → b ≠ F.L := fun b nb e => nb (e ▸ st.LW)
  refine ⟨⟨⟨fun b o nb e => (hs.2 b (hne b nb)).trans e, Nat.le_refl _, fun _ _ _ e => e, rfl, fun x => x⟩, fun _ z => z, fun _ z => .inl z, fun _ w => .inl w⟩, ?_⟩
  exact {
    b0 := st.b0
    hk := fun b o e => (hs.2 b (fun q => by have := st.wn0 _ st.LW; rw [← q, e] at this; cases this)).trans (st.hk b o e)
    bare := st.bare
    zlt := fun b z => let ⟨o, e⟩ := st.zlt b z; live b o e
    wlt := fun b w => let ⟨o, e⟩ := st.wlt b w; live b o e
    wn0 := st.wn0
    disj := st.disj
    z0 := st.z0
    z1 := st.z1
    LW := st.LW
    kind := st.kind
    ns := ⟨_, hn⟩
    cells := fun y ho hy => by
      obtain ⟨c, v, h1, ⟨oc, h2, h3⟩, h4⟩ := st.cells y ho hy
      refine ⟨c, v, h1, ⟨oc, (hs.2 c (fun q => ?_)).trans h2, h3⟩, h4⟩
      obtain ⟨m, o, es, ep, e1, e2, _⟩ := st.ns
      rw [← q, h2] at e1; cases e1
      rw [h3] at e2; cases e2
    inj := st.inj
    ownd := st.ownd
    vals := fun _ _ h => by cases h
    owns := ⟨fun _ => (0 : Nat), And.intro (fun _ _ h => by simp at h) (fun _ _ _ _ h => by simp at h)⟩ }

theorem cell_ne {h : Heap} {L c : Addr} {m : Str → Option Value} {v : Option Value} (hn : h.Ns L m) (hc : h.IsCell c v) : c ≠ L := by
  rintro rfl
  obtain ⟨o, es, ep, e1, e2, _⟩ := hn
  obtain ⟨oc, h2, h3⟩ := hc
  rw [h2] at e1; cases e1
  rw [h3] at e2; cases e2
theorem list_ne {h : Heap} {L c : Addr} {m : Str → Option Value} {vs : Array Value} (hn : h.Ns L m) (hc : h.PlainList c vs) : c ≠ L := by
  rintro rfl
  obtain ⟨o, es, ep, e1, e2, _⟩ := hn
  obtain ⟨k, h2⟩ := hc
  rw [h2] at e1; cases e1
  cases e2
theorem list_ne_cell {h : Heap} {a c : Addr} {v : Option Value} {vs : Array Value} (hc : h.IsCell c v) (hl : h.PlainList a vs) : a ≠ c := by
  rintro rfl
  obtain ⟨oc, h2, h3⟩ := hc
  obtain ⟨k, h4⟩ := hl
  rw [h4] at h2; cases h2
  cases h3

/-- values that stood before stand, of other names -/
theorem VarAt.local_ (st : St G F Z W σ s) {h' : Heap} {x y : Str} {v w : Value} {m : Str → Option Value} (hm : s.heap.Ns F.L m) (hn : h'.Ns F.L fun z => if z = x then some w else m z) (hs : Heap.SameBut F.L s.heap h')
    (hy : y ≠ x) (r : VarAt F s.heap y v) : VarAt F h' y v := by
  rcases r with ⟨k, m1, hn1, hm1⟩ | ⟨k, c, hc, hv⟩
  · refine .inl ⟨k, _, hn, ?_⟩
    rw [if_neg hy, ← ns_same hn1 hm]; exact hm1
  · have := cell_ne hm hv
    obtain ⟨oc, h2, h3⟩ := hv
    exact .inr ⟨k, c, hc, oc, (hs.2 c this).trans h2, h3⟩

theorem St.putB {x : Str} {pv : PV} {v : Value} {A : Around} {E : Value → Shared → Prop} {Q : Unit → Shared → Prop} (st : St G F Z W σ s) (hk : F.sc.names.lookup x = some .local ∨ (F.Mine x ∧ F.sc.names.lookup x = some .cell)) (r : Rep Z s.heap pv v)
    (h : ∀ s', s'.heap.objs.size = s.heap.objs.size → Gr Z W s Z W s' → St G F Z W ((x, .val pv) :: σ) s' → Q () s') : wpAny (model G.prog G.w) A (storeName F.env x v) Q E s := by
  obtain ⟨m, hm⟩ := st.ns
  rcases hk with hk | ⟨ho, hk⟩
  · refine wpAny_storeName_local (env := F.env) hk hm (fun h' hn hs => ?_) (by have : F.env.scope.kind = .function := st.kind; rw [this]; rfl)
    obtain ⟨g, st'⟩ := st.local_ (tk := s.toks + 1) hn hs
    have zk : ∀ b o, Z b → s.heap.get? b = some o → h'.get? b = some o := fun b o z e => g.ext.keep b o (st.disj b z) e
    refine h _ hs.1 g { st' with vals := fun y p hy => ?_, owns := ?_ }
    · by_cases q : y = x
      · subst q
        rw [lookup_cons_self] at hy
        cases hy
        exact ⟨v, .inl ⟨hk, _, hn, by simp⟩, r.mono (fun _ z => z) zk⟩
      · rw [lookup_cons_ne _ _ q] at hy
        obtain ⟨w, h1, h2⟩ := st.vals y p hy
        exact ⟨w, h1.local_ st hm hn hs q, h2.mono (fun _ z => z) zk⟩
    · obtain ⟨ad, h1, h2⟩ := st.owns
      have ne : ∀ y xs, List.lookup y ((x, Slot.val pv) :: σ) = some (.own xs) → y ≠ x := fun y xs hy q => by subst q; rw [lookup_cons_self] at hy; cases hy
      refine ⟨ad, fun y xs hy => ?_, fun y z xs ys hy hz => ?_⟩
      · have q := ne y xs hy
        rw [lookup_cons_ne _ _ q] at hy
        obtain ⟨a1, a2, vs, hp, a4⟩ := h1 y xs hy
        have nl := list_ne hm hp
        obtain ⟨k, a3⟩ := hp
        exact ⟨a1, a2.local_ st hm hn hs q, vs, ⟨k, (hs.2 _ nl).trans a3⟩, a4.mono (fun _ z => z) zk⟩
      · have q1 := ne y xs hy
        have q2 := ne z ys hz
        rw [lookup_cons_ne _ _ q1] at hy
        rw [lookup_cons_ne _ _ q2] at hz
        exact h2 y z xs ys hy hz
  · obtain ⟨c, v0, hc, hv0, wc⟩ := st.cells x ho hk
    refine wpAny_storeName_cell (env := F.env) st.kind hk hc hv0 fun h' hv' hs => ?_
    have cl := cell_ne hm hv0
    have live : ∀ b o, s.heap.get? b = some o → ∃ o', h'.get? b = some o' := fun b o e => by
      by_cases q : b = c
      · obtain ⟨o', e', _⟩ := hv'; exact ⟨o', q ▸ e'⟩
      · exact ⟨o, (hs.2 b q).trans e⟩
    have nw : ∀ b, ¬ W b → b ≠ c := fun b nb e => nb (e ▸ wc)
    have g : Gr Z W s Z W { s with heap := h' } := ⟨⟨fun b o nb e => (hs.2 b (nw b nb)).trans e, Nat.le_refl _, fun _ _ _ e => e, rfl, fun x => x⟩, fun _ z => z, fun _ z => .inl z, fun _ w => .inl w⟩
    have zk : ∀ b o, Z b → s.heap.get? b = some o → h'.get? b = some o := fun b o z e => g.ext.keep b o (st.disj b z) e
    have va : ∀ y w, y ≠ x → VarAt F s.heap y w → VarAt F h' y w := fun y w q r => by
      rcases r with ⟨k, m1, hn1, hm1⟩ | ⟨k, c1, hc1, oc, h2, h3⟩
      · exact .inl ⟨k, m1, hn1.sameBut hs (Ne.symm cl), hm1⟩
      · refine .inr ⟨k, c1, hc1, oc, (hs.2 c1 (fun e => q (st.inj x ho y c hc (e ▸ hc1)).symm)).trans h2, h3⟩
    refine h _ hs.1 g ?_
    exact {
      b0 := st.b0
      hk := fun b o e => (hs.2 b (fun q => by have := st.wn0 _ wc; rw [← q, e] at this; cases this)).trans (st.hk b o e)
      bare := st.bare
      zlt := fun b z => let ⟨o, e⟩ := st.zlt b z; live b o e
      wlt := fun b w => let ⟨o, e⟩ := st.wlt b w; live b o e
      wn0 := st.wn0
      disj := st.disj
      z0 := st.z0
      z1 := st.z1
      LW := st.LW
      kind := st.kind
      ns := ⟨_, hm.sameBut hs (Ne.symm cl)⟩
      cells := fun y ho hy => by
        obtain ⟨c1, v1, h1, h2, h4⟩ := st.cells y ho hy
        by_cases q : c1 = c
        · subst q; exact ⟨c1, _, h1, hv', h4⟩
        · obtain ⟨oc, h2, h3⟩ := h2
          exact ⟨c1, v1, h1, ⟨oc, (hs.2 c1 q).trans h2, h3⟩, h4⟩
      inj := st.inj
      ownd := st.ownd
      vals := fun y p hy => by
        by_cases q : y = x
        · subst q
          rw [lookup_cons_self] at hy
          cases hy
          exact ⟨v, .inr ⟨hk, c, hc, hv'⟩, r.mono (fun _ z => z) zk⟩
        · rw [lookup_cons_ne _ _ q] at hy
          obtain ⟨w, h1, h2⟩ := st.vals y p hy
          exact ⟨w, va y w q h1, h2.mono (fun _ z => z) zk⟩
      owns := by
        obtain ⟨ad, h1, h2⟩ := st.owns
        have ne : ∀ y xs, List.lookup y ((x, Slot.val pv) :: σ) = some (.own xs) → y ≠ x := fun y xs hy q => by subst q; rw [lookup_cons_self] at hy; cases hy
        refine ⟨ad, fun y xs hy => ?_, fun y z xs ys hy hz => ?_⟩
        · have q := ne y xs hy
          rw [lookup_cons_ne _ _ q] at hy
          obtain ⟨a1, a2, vs, hp, a4⟩ := h1 y xs hy
          have nl := list_ne_cell hv0 hp
          obtain ⟨k, a3⟩ := hp
          exact ⟨a1, va y _ q a2, vs, ⟨k, (hs.2 _ nl).trans a3⟩, a4.mono (fun _ z => z) zk⟩
        · have q1 := ne y xs hy
          have q2 := ne z ys hz
          rw [lookup_cons_ne _ _ q1] at hy
          rw [lookup_cons_ne _ _ q2] at hz
          exact h2 y z xs ys hy hz }

theorem St.put {x : Str} {pv : PV} {v : Value} {A : Around} {E : Value → Shared → Prop} {Q : Unit → Shared → Prop} (st : St G F Z W σ s) (ho : F.own = true) (hk : F.sc.names.lookup x = some .local ∨ F.sc.names.lookup x = some .cell) (r : Rep Z s.heap pv v)
    (h : ∀ s', Gr Z W s Z W s' → St G F Z W ((x, .val pv) :: σ) s' → Q () s') : wpAny (model G.prog G.w) A (storeName F.env x v) Q E s :=
  st.putB (hk.imp id fun k => ⟨.inl ho, k⟩) r fun s' _ => h s'

/-- a new list that the frame may change -/
theorem St.putOwn {x : Str} {xs : List PV} {vs : List Value} {a : Addr} {A : Around} {E : Value → Shared → Prop} {Q : Unit → Shared → Prop} (st : St G F Z W σ s) (hk : F.sc.names.lookup x = some .local)
    (hp : s.heap.PlainList a vs.toArray) (hr : Reps Z s.heap xs vs) (za : ¬ Z a) (wa : ¬ W a) (ha : F.h0.get? a = none)
    (h : ∀ s', ExtG W no s s' → St G F Z (fun b => W b ∨ b = a) ((x, .own xs) :: σ) s' → Q () s') : wpAny (model G.prog G.w) A (storeName F.env x (.ref a)) Q E s := by
  obtain ⟨m, hm⟩ := st.ns
  refine wpAny_storeName_local (env := F.env) hk hm (fun h' hn hs => ?_) (by have : F.env.scope.kind = .function := st.kind; rw [this]; rfl)
  obtain ⟨g, st'⟩ := st.local_ (tk := s.toks + 1) hn hs
  have zk : ∀ b o, Z b → s.heap.get? b = some o → h'.get? b = some o := fun b o z e => g.ext.keep b o (st.disj b z) e
  have hp' : h'.PlainList a vs.toArray := by
    have nl := list_ne hm hp
    obtain ⟨k, a3⟩ := hp
    exact ⟨k, (hs.2 _ nl).trans a3⟩
  refine h _ g.ext { st' with wlt := ?_, wn0 := ?_, disj := ?_, LW := .inl st'.LW, cells := ?_, vals := fun y p hy => ?_, owns := ?_ }
  · rintro b (w | rfl)
    · exact st'.wlt b w
    · obtain ⟨k, a3⟩ := hp'; exact ⟨_, a3⟩
  · rintro b (w | rfl)
    · exact st.wn0 b w
    · exact ha
  · rintro b z (w | rfl)
    · exact st.disj b z w
    · exact za z
  · intro y o hy
    obtain ⟨c, v, h1, h2, h3⟩ := st'.cells y o hy
    exact ⟨c, v, h1, h2, .inl h3⟩
  · by_cases q : y = x
    · subst q; rw [lookup_cons_self] at hy; cases hy
    · rw [lookup_cons_ne _ _ q] at hy
      obtain ⟨w, h1, h2⟩ := st.vals y p hy
      exact ⟨w, h1.local_ st hm hn hs q, h2.mono (fun _ z => z) zk⟩
  · obtain ⟨ad, h1, h2⟩ := st.owns
    refine ⟨fun y => if y = x then a else ad y, fun y ys hy => ?_, fun y z ys zs hy hz hyz => ?_⟩
    · by_cases q : y = x
      · subst q
        rw [lookup_cons_self] at hy
        cases hy
        dsimp only
        rw [if_pos rfl]
        exact ⟨.inr rfl, .inl ⟨hk, _, hn, by simp⟩, vs, hp', hr.mono (fun _ z => z) zk⟩
      · rw [lookup_cons_ne _ _ q] at hy
        obtain ⟨a1, a2, us, hq, a4⟩ := h1 y ys hy
        have nl := list_ne hm hq
        obtain ⟨k, a3⟩ := hq
        dsimp only
        rw [if_neg q]
        exact ⟨.inl a1, a2.local_ st hm hn hs q, us, ⟨k, (hs.2 _ nl).trans a3⟩, a4.mono (fun _ z => z) zk⟩
    · dsimp only
      by_cases q1 : y = x
      · by_cases q2 : z = x
        · exact absurd (q1.trans q2.symm) hyz
        · rw [if_pos q1, if_neg q2]
          rw [lookup_cons_ne _ _ q2] at hz
          intro e
          exact wa (e ▸ (h1 z zs hz).1)
      · by_cases q2 : z = x
        · rw [if_neg q1, if_pos q2]
          rw [lookup_cons_ne _ _ q1] at hy
          intro e
          exact wa (e ▸ (h1 y ys hy).1)
        · rw [if_neg q1, if_neg q2]
          rw [lookup_cons_ne _ _ q1] at hy
          rw [lookup_cons_ne _ _ q2] at hz
          exact h2 y z ys zs hy hz hyz
end
end Mine
namespace Mine

section
variable {G : Gc} {n : Nat} {σ τ : Loc} {sc : Scope} {o : Out}

theorem Ex.nil : Ex G n sc σ [] (.next σ) := ⟨fun F A Z W s Q E _ _ _ st h => wpAny_execs_nil (h _ s Z W (Gr.refl ..) ⟨rfl, st⟩)⟩
theorem Ex.cons {s : Stmt} {ss : List Stmt} (h1 : Ex1 G n sc σ s (.next τ)) (h2 : Ex G n sc τ ss o) : Ex G n sc σ (s :: ss) o := by
  refine ⟨fun F A Z W s Q E hsc ho ok st h => ?_⟩
  refine wpAny_execs_cons (h1.run F A Z W s _ _ hsc ho ok st fun fl s1 Z1 W1 g1 o1 => ?_)
  obtain ⟨rfl, st1⟩ := o1
  exact h2.run F A Z1 W1 s1 _ _ hsc ho ok st1 fun fl s2 Z2 W2 g2 o2 => h fl s2 Z2 W2 (g1.trans g2) o2
def Out.stops : Out → Bool
  | .next _ => false
  | _ => true
theorem Ex.stop {s : Stmt} {ss : List Stmt} (h1 : Ex1 G n sc σ s o) (hs : o.stops = true) : Ex G n sc σ (s :: ss) o := by
  refine ⟨fun F A Z W s Q E hsc ho ok st h => ?_⟩
  refine wpAny_execs_cons (h1.run F A Z W s _ _ hsc ho ok st fun fl s1 Z1 W1 g1 o1 => ?_)
  have := h fl s1 Z1 W1 g1 o1
  cases o with
  | next => simp [Out.stops] at hs
  | brk => obtain ⟨rfl, _⟩ := o1; exact this
  | cont => obtain ⟨rfl, _⟩ := o1; exact this
  | ret => obtain ⟨v, rfl, _⟩ := o1; exact this
theorem Ex.weak {ss : List Stmt} (h1 : Ex G n sc τ ss o) (h : ∀ y sl, τ.lookup y = some sl → σ.lookup y = some sl) : Ex G n sc σ ss o :=
  ⟨fun F A Z W s Q E hsc ho ok st k => h1.run F A Z W s Q E hsc ho ok (st.weak h) k⟩
theorem Ex.out {ss : List Stmt} (h1 : Ex G n sc σ ss (.next τ)) {τ' : Loc} (h : ∀ y sl, τ'.lookup y = some sl → τ.lookup y = some sl) : Ex G n sc σ ss (.next τ') :=
  ⟨fun F A Z W s Q E hsc ho ok st k => h1.run F A Z W s Q E hsc ho ok st fun fl s' Z' W' g o => k fl s' Z' W' g ⟨o.1, o.2.weak h⟩⟩

theorem Ex1.assign {x : Str} {e : Expr} {pv : PV} {p pos} (h1 : Ev G n sc σ e pv) (hk : sc.names.lookup x = some .local ∨ sc.names.lookup x = some .cell)
    (hs : ∀ env, swapsWith e (some (.Name x p)) pos.line env = pure false) : Ex1 G n sc σ (.Assign [.Name x p] e pos) (.next ((x, .val pv) :: σ)) := by
  refine ⟨fun F A Z W s Q E hsc ho ok st h => ?_⟩
  refine wpAny_Assign_Name (h1.run F A Z W s _ _ hsc ok st fun v s1 Z1 e1 z1 r1 => ?_) (hs _)
  exact (st.ext e1 z1).put ho (by rw [hsc]; exact hk) r1 fun s2 g2 st2 => h _ s2 Z1 W ((Gr.of e1 z1).trans g2) ⟨rfl, st2⟩
theorem Ex1.aug {x : Str} {e : Expr} {a b c : PV} {op : Operator} {p pos} (hx : σ.lookup x = some (.val a)) (h1 : Ev G n sc σ e b) (h2 : InV G n op a b c)
    (hk : sc.names.lookup x = some .local ∨ sc.names.lookup x = some .cell) : Ex1 G n sc σ (.AugAssign (.Name x p) op e pos) (.next ((x, .val c) :: σ)) := by
  refine ⟨fun F A Z W s Q E hsc ho ok st h => ?_⟩
  obtain ⟨v, hv, hr⟩ := st.vals x a hx
  have load : ∀ {Q : Value → Shared → Prop}, Q v s → wpAny (model G.prog G.w) A (loadName F.env x) Q E s := fun q => by
    rcases hv with ⟨k, m, hn, hm⟩ | ⟨k, c, hc, hv⟩
    · exact wpAny_loadName_local (env := F.env) st.kind k hn hm q
    · exact wpAny_loadName_cell (env := F.env) st.kind k hc hv q
  refine wpAny_AugAssign_Name (load (h1.run F A Z W s _ _ hsc ok st fun w s1 Z1 e1 z1 r1 => ?_))
  refine h2 A Z1 s1 v w _ _ ok z1.lt (hr.ext e1 z1) r1 fun r s2 Z2 e2 z2 r2 => ?_
  have e12 := e1.trans' e2
  have z12 := z1.trans z2 e1
  exact (st.ext e12 z12).put ho (by rw [hsc]; exact hk) r2 fun s3 g3 st3 => h _ s3 Z2 W ((Gr.of e12 z12).trans g3) ⟨rfl, st3⟩
theorem Ex1.if_ {t : Expr} {a b : List Stmt} {c : Bool} {pos} (h1 : EvT G n sc σ t c) (h2 : Ex G n sc σ (if c then a else b) o) : Ex1 G n sc σ (.If t a b pos) o := by
  refine ⟨fun F A Z W s Q E hsc ho ok st h => ?_⟩
  refine wpAny_If (h1.run F A Z W s _ _ hsc ok st fun s1 Z1 e1 z1 => ?_)
  have g := Gr.of (W := W) e1 z1
  cases c with
  | true => exact h2.run F A Z1 W s1 _ _ hsc ho ok (st.ext e1 z1) fun fl s2 Z2 W2 g2 o2 => h fl s2 Z2 W2 (g.trans g2) o2
  | false => exact h2.run F A Z1 W s1 _ _ hsc ho ok (st.ext e1 z1) fun fl s2 Z2 W2 g2 o2 => h fl s2 Z2 W2 (g.trans g2) o2
theorem Ex1.assert {t : Expr} {m : Option Expr} {pos} (h1 : EvT G n sc σ t true) : Ex1 G n sc σ (.Assert t m pos) (.next σ) := by
  refine ⟨fun F A Z W s Q E hsc ho ok st h => ?_⟩
  exact wpAny_Assert_holds (h1.run F A Z W s _ _ hsc ok st fun s1 Z1 e1 z1 => ⟨rfl, h _ s1 Z1 W (Gr.of e1 z1) ⟨rfl, st.ext e1 z1⟩⟩)
theorem Ex1.brk {pos} : Ex1 G n sc σ (.Break pos) (.brk σ) := ⟨fun F A Z W s Q E _ _ _ st h => wpAny_Break (h _ s Z W (Gr.refl ..) ⟨rfl, st⟩)⟩
theorem Ex1.ret {e : Expr} {pv : PV} {pos} (h1 : Ev G n sc σ e pv) : Ex1 G n sc σ (.Return (some e) pos) (.ret pv) := by
  refine ⟨fun F A Z W s Q E hsc ho ok st h => ?_⟩
  refine wpAny_Return_some (h1.run F A Z W s _ _ hsc ok st fun v s1 Z1 e1 z1 r1 => ?_)
  exact h _ s1 Z1 W (Gr.of e1 z1) ⟨v, rfl, r1, (st.ext e1 z1).weak fun y sl q => by simp at q⟩
/-- a new list that nobody else holds -/
structure EvN (G : Gc) (n : Nat) (sc : Scope) (σ : Loc) (e : Expr) (xs : List PV) : Prop where
  run : ∀ (F : Fi) (A : Around) (Z W : Addr → Prop) (s : Shared) (Q : Value → Shared → Prop) (E : Value → Shared → Prop), F.sc = sc → OkA n A → St G F Z W σ s →
    (∀ a vs s' Z', Ext0 s s' → ZG Z s Z' s' → s.heap.get? a = none → ¬ Z' a → s'.heap.PlainList a vs.toArray → Reps Z' s'.heap xs vs → Q (.ref a) s') → wpAny (model G.prog G.w) A (eval e F.env) Q E s
theorem not_live {Z : Addr → Prop} {h : Heap} (l : Liv Z h) {a : Addr} (e : h.get? a = none) : ¬ Z a := fun z => by obtain ⟨o, q⟩ := l a z; rw [e] at q; cases q
theorem EvN.disp {es : List Expr} {xs : List PV} {pos} (h1 : EvL G n sc σ es xs) (hl : xs.length ≤ 1000000) : EvN G n sc σ (.List es pos) xs := by
  refine ⟨fun F A Z W s Q E hsc ok st h => ?_⟩
  refine wpAny_List (h1.run F A Z W s _ _ pos hsc ok st fun vs s1 Z1 e1 z1 r1 => ⟨?_, ?_⟩)
  · rw [r1.length, sizeLine_eq]; omega
  · have e2 := Ext0.push s1 { cls := .type "list", data := .seq vs.toArray } s1.toks
    exact h _ vs _ Z1 (e1.trans' e2) (z1.trans (ZG.same z1.lt e2) e1) (Ext0.dead e1 (none_size _)) (not_live z1.lt (none_size _)) ⟨0, Heap.get?_push_size _ rfl⟩ (r1.ext e2 (ZG.same z1.lt e2))
theorem Ex1.assignOwn {x : Str} {e : Expr} {xs : List PV} {p pos} (h1 : EvN G n sc σ e xs) (hk : sc.names.lookup x = some .local)
    (hs : ∀ env, swapsWith e (some (.Name x p)) pos.line env = pure false) : Ex1 G n sc σ (.Assign [.Name x p] e pos) (.next ((x, .own xs) :: σ)) := by
  refine ⟨fun F A Z W s Q E hsc ho ok st h => ?_⟩
  refine wpAny_Assign_Name (h1.run F A Z W s _ _ hsc ok st fun a vs s1 Z1 e1 z1 na za hp r1 => ?_) (hs _)
  have st1 := st.ext e1 z1
  have h0 : F.h0.get? a = none := by
    cases q : F.h0.get? a with
    | none => rfl
    | some o => rw [st.hk a o q] at na; cases na
  refine st1.putOwn (by rw [hsc]; exact hk) hp r1 za (fun w => by obtain ⟨o, q⟩ := st.wlt a w; rw [na] at q; cases q) h0 fun s2 g2 st2 => ?_
  refine h _ s2 Z1 _ ?_ ⟨rfl, st2⟩
  have g := Gr.of (W := W) e1 z1
  exact ⟨g.ext.trans g2 (fun b w => .inl w) (fun _ h => h.elim), g.zs, g.zw, fun b w => w.elim .inl fun e => .inr (e ▸ na)⟩
end

section
variable {G : Gc} {F : Fi} {Z W : Addr → Prop} {σ : Loc} {s : Shared}
theorem St.freeze {x : Str} {xs : List PV} (st : St G F Z W σ s) (hx : σ.lookup x = some (.own xs)) : ∃ a, Gr Z W s (fun b => Z b ∨ b = a) (fun b => W b ∧ b ≠ a) s ∧ W a ∧
    St G F (fun b => Z b ∨ b = a) (fun b => W b ∧ b ≠ a) ((x, .val (.list xs)) :: σ) s := by
  obtain ⟨ad, h1, h2⟩ := st.owns
  obtain ⟨wa, va, vs, hp, hr⟩ := h1 x xs hx
  obtain ⟨m, hm⟩ := st.ns
  refine ⟨ad x, ⟨ExtG.refl .., fun _ z => .inl z, fun b z => z.elim .inl fun e => .inr (.inl (e ▸ wa)), fun b w => .inl w.1⟩, wa, ?_⟩
  have obj : ∃ o, s.heap.get? (ad x) = some o := let ⟨k, e⟩ := hp; ⟨_, e⟩
  exact { st with
    zlt := fun b z => z.elim (st.zlt b) fun e => e ▸ obj
    wlt := fun b w => st.wlt b w.1
    wn0 := fun b w => st.wn0 b w.1
    disj := fun b z w => z.elim (fun z => st.disj b z w.1) w.2
    z0 := fun b z => z.elim (st.z0 b) fun e => .inr (e ▸ st.wn0 _ wa)
    z1 := fun b z => .inl (st.z1 b z)
    LW := ⟨st.LW, Ne.symm (list_ne hm hp)⟩
    cells := fun y o hy => let ⟨c, v, q1, q2, q3⟩ := st.cells y o hy; ⟨c, v, q1, q2, q3, Ne.symm (list_ne_cell q2 hp)⟩
    vals := fun y p hy => by
      by_cases q : y = x
      · subst q
        rw [lookup_cons_self] at hy
        cases hy
        refine ⟨_, va, ?_⟩
        simp only [Rep]
        exact ⟨_, vs, rfl, .inr rfl, hp.isList, hr.mono (fun _ z => .inl z) fun _ _ _ e => e⟩
      · rw [lookup_cons_ne _ _ q] at hy
        obtain ⟨w, q1, q2⟩ := st.vals y p hy
        exact ⟨w, q1, q2.mono (fun _ z => .inl z) fun _ _ _ e => e⟩
    owns := by
      have ne : ∀ y ys, List.lookup y ((x, Slot.val (.list xs)) :: σ) = some (.own ys) → y ≠ x := fun y xs hy q => by subst q; rw [lookup_cons_self] at hy; cases hy
      refine ⟨ad, fun y ys hy => ?_, fun y z ys zs hy hz => ?_⟩
      · have q := ne y ys hy
        rw [lookup_cons_ne _ _ q] at hy
        obtain ⟨a1, a2, us, a3, a4⟩ := h1 y ys hy
        exact ⟨⟨a1, h2 y x ys xs hy hx q⟩, a2, us, a3, a4.mono (fun _ z => .inl z) fun _ _ _ e => e⟩
      · have q1 := ne y ys hy
        have q2 := ne z zs hz
        rw [lookup_cons_ne _ _ q1] at hy
        rw [lookup_cons_ne _ _ q2] at hz
        exact h2 y z ys zs hy hz }
end

section
variable {G : Gc} {n : Nat} {σ τ : Loc} {sc : Scope} {o : Out}
theorem Ex.freeze {ss : List Stmt} {x : Str} {xs : List PV} (hx : σ.lookup x = some (.own xs)) (h1 : Ex G n sc ((x, .val (.list xs)) :: σ) ss o) : Ex G n sc σ ss o := by
  refine ⟨fun F A Z W s Q E hsc ho ok st h => ?_⟩
  obtain ⟨a, g, _, st'⟩ := st.freeze hx
  exact h1.run F A _ _ s Q E hsc ho ok st' fun fl s' Z' W' g' o' => h fl s' Z' W' (g.trans g') o'
def scal : PV → Bool
  | .none => true
  | .bool _ => true
  | .int _ => true
  | .str _ => true
  | _ => false
theorem Rep.scal {Z Z' : Addr → Prop} {h h' : Heap} {x : PV} {v : Value} (hs : scal x = true) (r : Rep Z h x v) : Rep Z' h' x v := by
  cases x <;> first | (simp only [Rep] at r ⊢; exact r) | (simp [Mine.scal] at hs)
theorem Ev.borrow {e : Expr} {x : Str} {xs : List PV} {pv : PV} (hx : σ.lookup x = some (.own xs)) (h1 : Ev G n sc ((x, .val (.list xs)) :: σ) e pv) (hs : scal pv = true) : Ev G n sc σ e pv := by
  refine ⟨fun F A Z W s Q E hsc ok st h => ?_⟩
  obtain ⟨a, g, _, st'⟩ := st.freeze hx
  exact h1.run F A _ _ s Q E hsc ok st' fun v s' Z' e' z' r' => h v s' Z e' (ZG.same st.zlt e') (r'.scal hs)
theorem EvT.borrow {e : Expr} {x : Str} {xs : List PV} {b : Bool} (hx : σ.lookup x = some (.own xs)) (h1 : EvT G n sc ((x, .val (.list xs)) :: σ) e b) : EvT G n sc σ e b := by
  refine ⟨fun F A Z W s Q E hsc ok st h => ?_⟩
  obtain ⟨a, g, _, st'⟩ := st.freeze hx
  exact h1.run F A _ _ s Q E hsc ok st' fun s' Z' e' z' => h s' Z e' (ZG.same st.zlt e')

/-! a def is entered -/
theorem OkA.deeper {A : Around} {env : Env} (h : OkA (n + 1) A) : OkA n (A.deeper env) := by
  obtain ⟨h1, h2, h3⟩ := h
  refine ⟨h1, ?_, ?_⟩
  · show A.depth + 1 + n < 1000; omega
  · show A.units + 3 + 8 * n + 100 < 9900; omega
theorem cellsFrom_addr : ∀ (names : List (Str × NameKind)) (k : Nat) (acc : List (Str × Addr)) (x y : Str) (c : Addr), (∀ p ∈ acc, p.2 < k) → (∀ p ∈ acc, ∀ q ∈ acc, p.2 = q.2 → p.1 = q.1) →
    (cellsFrom k names acc).lookup x = some c → (cellsFrom k names acc).lookup y = some c → x = y
  | [], k, acc, x, y, c, hk, hi, hx, hy => hi _ (mem_of_lookup hx) _ (mem_of_lookup hy) rfl
  | (nm, kd) :: r, k, acc, x, y, c, hk, hi, hx, hy => by
    unfold cellsFrom at hx hy
    split at hx
    · rename_i hq
      rw [if_pos hq] at hy
      refine cellsFrom_addr r (k + 1) ((nm, k) :: acc) x y c (fun p hp => ?_) (fun p hp q hq e => ?_) hx hy
      · rcases List.mem_cons.mp hp with rfl | hp
        · exact Nat.lt_succ_self _
        · exact Nat.lt_succ_of_lt (hk p hp)
      · rcases List.mem_cons.mp hp with rfl | hp <;> rcases List.mem_cons.mp hq with rfl | hq
        · rfl
        · exact absurd (hk q hq) (by rw [← e]; exact Nat.lt_irrefl _)
        · exact absurd (hk p hp) (by rw [e]; exact Nat.lt_irrefl _)
        · exact hi p hp q hq e
    · rename_i hq
      rw [if_neg hq] at hy
      exact cellsFrom_addr r k acc x y c hk hi hx hy
end
end Mine
namespace Mine

theorem bindL_not {k : Str → Option NameKind} {y : Str} : ∀ (b : List (Str × Value)) (m : Str → Option Value), y ∉ b.map (·.1) → bindL k b m y = m y
  | [], m, _ => rfl
  | (n, v) :: r, m, h => by
    simp only [List.map_cons, List.mem_cons, not_or] at h
    unfold bindL
    rw [bindL_not r _ h.2]
    split
    · exact if_neg h.1
    · rfl
theorem bindL_get {k : Str → Option NameKind} {y : Str} {v : Value} : ∀ (b : List (Str × Value)) (m : Str → Option Value), (b.map (·.1)).Nodup → b.lookup y = some v → k y = some .local → bindL k b m y = some v
  | [], m, _, h, _ => by simp at h
  | (n, w) :: r, m, hd, h, hk => by
    simp only [List.map_cons, List.nodup_cons] at hd
    unfold bindL
    by_cases q : y = n
    · subst q
      rw [List.lookup_cons, beq_self_eq_true] at h
      cases h
      rw [bindL_not r _ hd.1, if_pos hk, if_pos rfl]
    · rw [List.lookup_cons, beq_eq_false_iff_ne.mpr q] at h
      exact bindL_get r _ hd.2 h hk
theorem bindC_not {k : Str → Option NameKind} {y : Str} : ∀ (b : List (Str × Value)) (m : Str → Option Value), y ∉ b.map (·.1) → bindC k b m y = m y
  | [], m, _ => rfl
  | (n, v) :: r, m, h => by
    simp only [List.map_cons, List.mem_cons, not_or] at h
    unfold bindC
    rw [bindC_not r _ h.2]
    split
    · rfl
    · exact if_neg h.1
theorem bindC_get {k : Str → Option NameKind} {y : Str} {v : Value} : ∀ (b : List (Str × Value)) (m : Str → Option Value), (b.map (·.1)).Nodup → b.lookup y = some v → k y ≠ some .local → bindC k b m y = some v
  | [], m, _, h, _ => by simp at h
  | (n, w) :: r, m, hd, h, hk => by
    simp only [List.map_cons, List.nodup_cons] at hd
    unfold bindC
    by_cases q : y = n
    · subst q
      rw [List.lookup_cons, beq_self_eq_true] at h
      cases h
      rw [bindC_not r _ hd.1, if_neg hk, if_pos rfl]
    · rw [List.lookup_cons, beq_eq_false_iff_ne.mpr q] at h
      exact bindC_get r _ hd.2 h hk

def slots : List Str → List PV → Loc
  | n :: ns, x :: xs => (n, .val x) :: slots ns xs
  | _, _ => []
theorem slots_get {Z : Addr → Prop} {h : Heap} {y : Str} {pv : PV} : ∀ {ns : List Str} {xs : List PV} {vs : List Value}, Reps Z h xs vs → (slots ns xs).lookup y = some (.val pv) → ∃ v, (ns.zip vs).lookup y = some v ∧ Rep Z h pv v
  | [], xs, vs, r, hy => by simp [slots] at hy
  | n :: ns, [], vs, r, hy => by simp [slots] at hy
  | n :: ns, x :: xs, vs, r, hy => by
    simp only [Reps] at r
    obtain ⟨v, ws, rfl, r1, r2⟩ := r
    unfold slots at hy
    by_cases q : y = n
    · subst q
      rw [lookup_cons_self] at hy
      cases hy
      exact ⟨v, by simp [List.zip, List.lookup], r1⟩
    · rw [lookup_cons_ne _ _ q] at hy
      obtain ⟨w, h1, h2⟩ := slots_get r2 hy
      refine ⟨w, ?_, h2⟩
      rw [List.zip_cons_cons, List.lookup_cons, beq_eq_false_iff_ne.mpr q]
      exact h1
theorem slots_own {y : Str} {l : List PV} : ∀ {ns : List Str} {xs : List PV}, (slots ns xs).lookup y ≠ some (.own l)
  | [], xs => by simp [slots]
  | n :: ns, [] => by simp [slots]
  | n :: ns, x :: xs => by
    unfold slots
    by_cases q : y = n
    · subst q; rw [lookup_cons_self]; intro h; cases h
    · rw [lookup_cons_ne _ _ q]; exact slots_own
theorem slots_mem {y : Str} {sl : Slot} : ∀ {ns : List Str} {xs : List PV}, (slots ns xs).lookup y = some sl → y ∈ ns
  | [], xs, h => by simp [slots] at h
  | n :: ns, [], h => by simp [slots] at h
  | n :: ns, x :: xs, h => by
    unfold slots at h
    by_cases q : y = n
    · subst q; exact .head _
    · rw [lookup_cons_ne _ _ q] at h; exact .tail _ (slots_mem h)

theorem zip_fst_sub : ∀ (ns : List Str) (vs : List Value), List.Sublist ((ns.zip vs).map (·.1)) ns
  | [], vs => by simp
  | n :: ns, [] => by simp
  | n :: ns, v :: vs => by
    simp only [List.zip_cons_cons, List.map_cons]
    exact (zip_fst_sub ns vs).cons₂ n

def kindsOk (sc : Scope) (ns : List Str) : Bool := ns.all fun x => match sc.names.lookup x with
  | some .local => true
  | some .cell => ((cellsFrom 0 sc.names []).lookup x).isSome
  | _ => false

theorem cellsFrom_some : ∀ (names : List (Str × NameKind)) (k k' : Nat) (acc acc' : List (Str × Addr)) (x : Str), acc.map (·.1) = acc'.map (·.1) → ((cellsFrom k names acc).lookup x).isSome = ((cellsFrom k' names acc').lookup x).isSome
  | [], k, k', acc, acc', x, h => by
    unfold cellsFrom
    induction acc generalizing acc' with
    | nil => cases acc' with
      | nil => rfl
      | cons => simp at h
    | cons p r ih => cases acc' with
      | nil => simp at h
      | cons p' r' =>
        obtain ⟨a, b⟩ := p
        obtain ⟨a', b'⟩ := p'
        simp only [List.map_cons, List.cons.injEq] at h
        obtain ⟨rfl, h⟩ := h
        rw [List.lookup_cons, List.lookup_cons]
        cases x == a with
        | true => rfl
        | false => exact ih r' h
  | (nm, kd) :: r, k, k', acc, acc', x, h => by
    unfold cellsFrom
    split
    · exact cellsFrom_some r _ _ _ _ x (by simp only [List.map_cons, h])
    · exact cellsFrom_some r _ _ _ _ x h

theorem absent_of_le {h : Heap} {a : Addr} (q : h.objs.size ≤ a) : h.get? a = none := by
  cases e : h.get? a with
  | none => rfl
  | some o => exact absurd (Heap.lt_size e) (Nat.not_lt.mpr q)

section
variable {G : Gc} {n : Nat}
/-- a def is entered, its frame known -/
theorem def_enter {d : DefRec} {x : Str} {ns : List Str} {xs : List PV} (h0 : Heap) (hm : d ∈ recsOf G.p) (hx : d.name = x)
    (hb : ∀ pm code doc vs, vs.length = xs.length → bindArgs (Calls.docDef d.name d.params d.body d.scope pm code doc) ⟨vs, []⟩ = pure (ns.zip vs))
    (hnd : ns.Nodup) (hks : kindsOk d.scope ns = true) (hcs : (d.scope.names.all fun p => !(d.scope.names.lookup p.1 == some .cell) || ((cellsFrom 0 d.scope.names []).lookup p.1).isSome) = true)
    (hk : d.scope.kind = .function) (hco : d.scope.isCoroutine = false) (hgen : d.scope.isGenerator = false) {f : Addr} (hf : G.mg x = some (.ref f))
    {A : Around} {Z : Addr → Prop} {s : Shared} {vs : List Value} {Q : Value → Shared → Prop} {E : Value → Shared → Prop} (hd : A.depth < 1000) (bs : Bs G s) (zl : Liv Z s.heap) (r : Reps Z s.heap xs vs)
    (hh0 : ∀ b o, G.base.get? b = some o → h0.get? b = some o) (hh1 : ∀ b o, h0.get? b = some o → s.heap.get? b = some o)
    (hbody : ∀ F W s1, F.sc = d.scope → F.own = true → F.fr = some F.L → F.h0 = h0 → F.Z0 = Z → Ext0 s s1 → (∀ b, W b → s.heap.get? b = none) → St G F Z W (slots ns xs) s1 →
      wpAny (model G.prog G.w) (A.deeper F.env) (execs d.body F.env) (fun fl s2 => ∃ v, fl = .ret v ∧ Q v s2) (fun _ _ => False) s1) : wpAny (model G.prog G.w) A (call (.ref f) vs) Q E s := by
  obtain ⟨a, o, pm, code, doc, ha, ho, hdat, hcd⟩ := G.top.fn d hm
  rw [hx, hf] at ha
  cases ha
  have ho' := bs.base _ _ ho
  have hl := r.length
  refine wpAny_call (codeAny_call_cells (body := d.body) (binds := ns.zip vs) (by exact hd) ho' hdat (G.top.nolimit.keeps bs.base) (hcd.keeps bs.base) rfl (hb _ _ _ _ hl) rfl ?_ ?_ hco hgen hk)
  · intro p hp
    have hmem : p.1 ∈ ns := (List.of_mem_zip hp).1
    have := List.all_eq_true.mp hks _ hmem
    show d.scope.names.lookup p.1 = _ ∨ _
    cases q : d.scope.names.lookup p.1 with
    | none => rw [q] at this; cases this
    | some kd =>
      rw [q] at this
      cases kd with
      | «local» => exact .inl rfl
      | cell => exact .inr ⟨q, (cellsFrom_some d.scope.names 0 (s.heap.objs.size + 1) [] [] p.1 rfl).symm.trans this⟩
      | _ => cases this
  · intro s1 x1
    generalize hcells : cellsFrom (s.heap.objs.size + 1) d.scope.names [] = cells at *
    let F : Fi := { sc := d.scope, L := s.heap.objs.size, cells := cells, q := d.name ++ ".<locals>.", fn := some f, cd := code, fr := some s.heap.objs.size, own := true, Z0 := Z, h0 := h0 }
    have hF : callEnvC (Calls.docDef d.name d.params d.body d.scope pm code doc) s.heap.objs.size f = F.env := by
      unfold callEnvC
      show newEnv d.scope _ _ (cellsFrom (s.heap.objs.size + 1) d.scope.names []) _ _ _ _ _ = _
      rw [hcells]; rfl
    rw [hF] at x1 ⊢
    obtain ⟨h1, tk1, e1, hk1⟩ := x1.done
    have keep1 : Ext0 s s1 := by rw [e1]; exact Ext0.heap hk1
    let W : Addr → Prop := fun b => b = s.heap.objs.size ∨ ∃ y, cells.lookup y = some b
    have wabs : ∀ b, W b → s.heap.get? b = none := by
      rintro b (rfl | ⟨y, hy⟩)
      · exact none_size _
      · exact absent_of_le (Nat.le_of_lt (x1.above y b (mem_of_lookup hy)))
    have wabs0 : ∀ b, W b → h0.get? b = none := fun b w => by
      cases q : h0.get? b with
      | none => rfl
      | some o => have := hh1 b o q; rw [wabs b w] at this; cases this
    have z1 : ZG Z s Z s1 := ZG.same zl keep1
    have st : St G F Z W (slots ns xs) s1 := {
      b0 := hh0
      hk := fun b o q => keep1.keep' b o (hh1 b o q)
      bare := keep1.bare bs.bare
      zlt := z1.lt
      wlt := by
        rintro b (rfl | ⟨y, hy⟩)
        · obtain ⟨o, es, ep, q, _⟩ := x1.toInCall.ns; exact ⟨o, q⟩
        · obtain ⟨o, q, _⟩ := x1.cell y b hy; exact ⟨o, q⟩
      wn0 := wabs0
      disj := fun b zb wb => by obtain ⟨o, q⟩ := zl b zb; rw [wabs b wb] at q; cases q
      z0 := fun b zb => .inl zb
      z1 := fun b zb => zb
      LW := .inl rfl
      kind := hk
      ns := ⟨_, x1.toInCall.ns⟩
      cells := fun y _ hy => by
        have hmem : (y, NameKind.cell) ∈ d.scope.names := mem_of_lookup hy
        have := List.all_eq_true.mp hcs _ hmem
        simp only [show d.scope.names.lookup y = some .cell from hy, beq_self_eq_true, Bool.not_true, Bool.false_or] at this
        rw [cellsFrom_some d.scope.names 0 (s.heap.objs.size + 1) [] [] y rfl, hcells] at this
        obtain ⟨cc, hcc⟩ := Option.isSome_iff_exists.mp this
        exact ⟨cc, _, hcc, x1.cell y cc hcc, .inr ⟨y, hcc⟩⟩
      ownd := fun _ => rfl
      inj := fun y _ y' cc h1 h2 => by
        refine cellsFrom_addr d.scope.names (s.heap.objs.size + 1) [] y y' cc (fun p hp => by simp at hp) (fun p hp => by simp at hp) ?_ ?_
        · rw [hcells]; exact h1
        · rw [hcells]; exact h2
      vals := fun y pv hy => by
        obtain ⟨v, hv, hr⟩ := slots_get r hy
        have hnd' : ((ns.zip vs).map (·.1)).Nodup := by
          exact hnd.sublist (zip_fst_sub _ _)
        have hkk := List.all_eq_true.mp hks _ (slots_mem hy)
        refine ⟨v, ?_, hr.ext keep1 z1⟩
        cases q : d.scope.names.lookup y with
        | none => rw [q] at hkk; cases hkk
        | some kd =>
          rw [q] at hkk
          cases kd with
          | «local» => exact .inl ⟨q, _, x1.toInCall.ns, bindL_get _ _ hnd' hv q⟩
          | cell =>
            have : ((cells).lookup y).isSome = true := by
              rw [← hcells, ← cellsFrom_some d.scope.names 0 (s.heap.objs.size + 1) [] [] y rfl]; exact hkk
            obtain ⟨cc, hcc⟩ := Option.isSome_iff_exists.mp this
            have hcell := x1.cell y cc hcc
            rw [bindC_get _ _ hnd' hv (by show d.scope.names.lookup y ≠ _; rw [q]; intro h; cases h)] at hcell
            exact .inr ⟨q, cc, hcc, hcell⟩
          | _ => cases hkk
      owns := ⟨fun _ => (0 : Nat), And.intro (fun y l hy => absurd hy slots_own) (fun y _ l _ hy => absurd hy slots_own)⟩ }
    refine wpAny_mono (hbody F W s1 rfl rfl rfl rfl rfl keep1 wabs st) (fun fl s2 q => ?_) fun _ _ f => f.elim
    obtain ⟨v, rfl, q⟩ := q
    exact q

end
/-- the ground of the top: what is asked of the state at a call -/
theorem Fn.intro {G : Gc} {n : Nat} {d : DefRec} {x : Str} {ns : List Str} {xs : List PV} {c : PV} (hm : d ∈ recsOf G.p) (hx : d.name = x)
    (hb : ∀ pm code doc vs, vs.length = xs.length → bindArgs (Calls.docDef d.name d.params d.body d.scope pm code doc) ⟨vs, []⟩ = pure (ns.zip vs))
    (hnd : ns.Nodup) (hks : kindsOk d.scope ns = true) (hcs : (d.scope.names.all fun p => !(d.scope.names.lookup p.1 == some .cell) || ((cellsFrom 0 d.scope.names []).lookup p.1).isSome) = true)
    (hk : d.scope.kind = .function) (hco : d.scope.isCoroutine = false) (hgen : d.scope.isGenerator = false)
    (h : Ex G n d.scope (slots ns xs) d.body (.ret c)) : Fn G (n + 1) x xs c := by
  intro f hf A Z s vs Q E ok bs zl r hQ
  refine def_enter s.heap hm hx hb hnd hks hcs hk hco hgen hf (by have := ok.2.1; omega) bs zl r bs.base (fun _ _ e => e) fun F W s1 hsc ho hfrm hh0 hZ0 keep1 wabs st => ?_
  refine h.run F (A.deeper F.env) Z W s1 _ _ hsc ho (OkA.deeper ok) st fun fl s2 Z2 W2 g2 o2 => ?_
  obtain ⟨v, rfl, hr, st2⟩ := o2
  subst hZ0
  exact ⟨v, rfl, hQ v s2 Z2 (keep1.trans g2.ext (fun b wb => .inr (wabs b wb)) (fun _ h => h.elim)) ⟨st2.z1, fun b z => (st2.z0 b z).imp id (fun q => by rw [hh0] at q; exact q), st2.zlt⟩ hr⟩
end Mine
namespace Mine

def ownerNames : List String := ["enumerate", "zip", "dict_itemiterator", "dict_reverseitemiterator", "odict_iterator", "itertools.zip_longest", "itertools.pairwise"]
def Plain (h : Heap) (I : Addr) : Prop := ∃ o T, h.get? I = some o ∧ o.cls = .type T ∧ ownerNames.contains T = false

/-- what an iterator needs of the steps between its own -/
structure Kp (G : Gc) (Z wr : Addr → Prop) (gs : Nat → Prop) (s s' : Shared) : Prop where
  bs : Bs G s'
  keep : ∀ b o, Z b ∨ wr b → s.heap.get? b = some o → s'.heap.get? b = some o
  gens : ∀ g, gs g → s'.gens[g]? = s.gens[g]?
theorem Kp.refl {G : Gc} {Z wr : Addr → Prop} {gs : Nat → Prop} {s : Shared} (b : Bs G s) : Kp G Z wr gs s s := ⟨b, fun _ _ _ e => e, fun _ _ => rfl⟩
theorem Kp.trans {G : Gc} {Z wr : Addr → Prop} {gs : Nat → Prop} {s s' s'' : Shared} (x : Kp G Z wr gs s s') (y : Kp G Z wr gs s' s'') : Kp G Z wr gs s s'' :=
  ⟨y.bs, fun b o h e => y.keep b o h (x.keep b o h e), fun g h => (y.gens g h).trans (x.gens g h)⟩

structure ItS (G : Gc) (n : Nat) (I : Addr) (Z wr : Addr → Prop) (gs : Nat → Prop) (s : Shared) : Prop where
  mem : wr I
  live : Liv wr s.heap
  apart : ∀ b, Z b → ¬ wr b
  glt : ∀ g, gs g → g < s.gens.size
  plain : Plain s.heap I
  self : ∀ s', Kp G Z wr gs s s' → ∀ A (Q : Value → Shared → Prop) (E : Value → Shared → Prop), OkA n A → Q (.ref I) s' → wpAny (model G.prog G.w) A (pyIter (.ref I)) Q E s'

def ItAt (G : Gc) (n : Nat) (ends : Bool) (I : Addr) (gs : Nat → Prop) : List PV → (Addr → Prop) → (Addr → Prop) → Shared → Prop
  | [], Z, wr, s => ItS G n I Z wr gs s ∧ ∀ s', Kp G Z wr gs s s' → ends = true → ∀ A (Q : Option Value → Shared → Prop) (E : Value → Shared → Prop), OkA n A →
      (∀ s'', ExtG wr gs s' s'' → Q none s'') → wpAny (model G.prog G.w) A (pyNext (.ref I)) Q E s'
  | x :: xs, Z, wr, s => ItS G n I Z wr gs s ∧ ∀ s' Zc, Kp G Z wr gs s s' → (∀ b, Z b → Zc b) → (∀ b, Zc b → ¬ wr b) → Liv Zc s'.heap → ∀ A (Q : Option Value → Shared → Prop) (E : Value → Shared → Prop), OkA n A →
      (∀ v s'' Z'' wr'', ExtG wr gs s' s'' → ZG Zc s' Z'' s'' → Rep Z'' s''.heap x v → ItAt G n ends I gs xs Z'' wr'' s'' → (∀ b, wr'' b → wr b ∨ s'.heap.get? b = none) → Q (some v) s'') →
      wpAny (model G.prog G.w) A (pyNext (.ref I)) Q E s'

theorem ItAt.its {G : Gc} {n : Nat} {ends : Bool} {I : Addr} {gs : Nat → Prop} : ∀ {xs : List PV} {Z wr : Addr → Prop} {s : Shared}, ItAt G n ends I gs xs Z wr s → ItS G n I Z wr gs s
  | [], _, _, _, h => by unfold ItAt at h; exact h.1
  | _ :: _, _, _, _, h => by unfold ItAt at h; exact h.1
theorem ItS.kp {G : Gc} {n : Nat} {I : Addr} {Z wr : Addr → Prop} {gs : Nat → Prop} {s s' : Shared} (x : ItS G n I Z wr gs s) (k : Kp G Z wr gs s s') (hg : s.gens.size ≤ s'.gens.size) : ItS G n I Z wr gs s' where
  mem := x.mem
  live := fun b w => let ⟨o, e⟩ := x.live b w; ⟨o, k.keep b o (.inr w) e⟩
  apart := x.apart
  glt := fun g h => Nat.lt_of_lt_of_le (x.glt g h) hg
  plain := let ⟨o, T, e, r⟩ := x.plain; ⟨o, T, k.keep I o (.inr x.mem) e, r⟩
  self := fun s'' k' => x.self s'' (k.trans k')
theorem ItAt.kp {G : Gc} {n : Nat} {ends : Bool} {I : Addr} {gs : Nat → Prop} : ∀ {xs : List PV} {Z wr : Addr → Prop} {s s' : Shared}, ItAt G n ends I gs xs Z wr s → Kp G Z wr gs s s' → s.gens.size ≤ s'.gens.size → ItAt G n ends I gs xs Z wr s'
  | [], Z, wr, s, s', h, k, hg => by
    unfold ItAt at h ⊢
    exact ⟨h.1.kp k hg, fun s2 k2 => h.2 s2 (k.trans k2)⟩
  | x :: xs, Z, wr, s, s', h, k, hg => by
    unfold ItAt at h ⊢
    exact ⟨h.1.kp k hg, fun s2 Zc k2 => h.2 s2 Zc (k.trans k2)⟩

theorem letOwned {M : Model} {A : Around} {E : Value → Shared → Prop} {Q : Unit → Shared → Prop} {s : Shared} {tgt : Expr} {I : Addr} {v : Value} (p : Plain s.heap I) (h : Q () s) : wpAny M A (letOwnedTupleGo tgt (.ref I) v) Q E s := by
  obtain ⟨o, T, ho, hc, hT⟩ := p
  have key : ∀ (a : Addr), wpAny M A (load I >>= fun o => match o.cls, o.data with
      | .type n, .fields vs =>
        if (ownerNames.contains n && vs[0]? == some (rawInt a)) = true then do
          rule "for.unpacks-the-owned-tuple"
          updateField I 0 .none
        else pure ()
      | _, _ => pure ()) Q E s := fun a => by
    refine wpAny_bind (wpAny_load ho ?_)
    rw [hc]
    cases o.data <;> first | exact wpAny_pure h | skip
    rename_i vs
    show wpAny M A (if (ownerNames.contains T && vs[0]? == some (rawInt a)) = true then _ else _) Q E s
    rw [hT, Bool.false_and, if_neg Bool.false_ne_true]
    exact wpAny_pure h
  unfold letOwnedTupleGo
  cases tgt <;> first | exact wpAny_pure h | skip
  all_goals
    cases v <;> first | exact wpAny_pure h | exact key _

/-- targets -/
structure AsV (G : Gc) (own : Option (List Str)) (sc : Scope) (σ : Loc) (t : Expr) (pv : PV) (τ : Loc) : Prop where
  run : ∀ (F : Fi) (A : Around) (Z W : Addr → Prop) (s : Shared) (v : Value) (Q : Unit → Shared → Prop) (E : Value → Shared → Prop), F.sc = sc → F.Is own → A.handled = none → St G F Z W σ s → Rep Z s.heap pv v →
    (∀ s', Gr Z W s Z W s' → St G F Z W τ s' → Q () s') → wpAny (model G.prog G.w) A (assign t F.env v) Q E s

section
variable {G : Gc} {n : Nat} {σ τ : Loc} {sc : Scope} {o : Out}
theorem AsV.name {own : Option (List Str)} {x : Str} {pv : PV} {p : Pos} (hk : sc.names.lookup x = some .local ∨ (own = none ∧ sc.names.lookup x = some .cell)) : AsV G own sc σ (.Name x p) pv ((x, .val pv) :: σ) := by
  refine ⟨fun F A Z W s v Q E hsc ho hh st r h => ?_⟩
  refine wpAny_assign_Name (st.putB ?_ r fun s' _ => h s')
  rw [hsc]
  exact hk.imp id fun ⟨e, k⟩ => ⟨.inl (by subst e; exact ho), k⟩
/-- a comprehension's own cell -/
theorem AsV.cellC {l : List Str} {x : Str} {pv : PV} {p : Pos} (hx : x ∈ l) (hk : sc.names.lookup x = some .cell) : AsV G (some l) sc σ (.Name x p) pv ((x, .val pv) :: σ) := by
  refine ⟨fun F A Z W s v Q E hsc ho hh st r h => ?_⟩
  refine wpAny_assign_Name (st.putB ?_ r fun s' _ => h s')
  rw [hsc]
  exact .inr ⟨.inr (ho.2 x hx), hk⟩

structure EvI (G : Gc) (n : Nat) (sc : Scope) (σ : Loc) (e : Expr) (xs : List PV) (ends : Bool) : Prop where
  run : ∀ (F : Fi) (A : Around) (Z W : Addr → Prop) (s : Shared) (Q : Value → Shared → Prop) (E : Value → Shared → Prop), F.sc = sc → OkA n A → St G F Z W σ s →
    (∀ I s' Z' wr gs, Ext0 s s' → ZG Z s Z' s' → ItAt G n ends I gs xs Z' wr s' → (∀ b, wr b → s.heap.get? b = none) → (∀ g, gs g → s.gens.size ≤ g) → Q (.ref I) s') →
    wpAny (model G.prog G.w) A (eval e F.env) (fun x s1 => wpAny (model G.prog G.w) A (pyIter x) Q E s1) E s

/-- what a loop leaves: the iterator's own things may be turned -/
structure GrI (Z W wr : Addr → Prop) (gs : Nat → Prop) (s : Shared) (Z' W' : Addr → Prop) (s' : Shared) : Prop where
  ext : ExtG (fun b => W b ∨ wr b) gs s s'
  zs : ∀ b, Z b → Z' b
  zw : ∀ b, Z' b → Z b ∨ W b ∨ wr b ∨ s.heap.get? b = none
  wg : ∀ b, W' b → W b ∨ wr b ∨ s.heap.get? b = none
theorem GrI.trans {Z W wr Z1 W1 wr1 Z2 W2 : Addr → Prop} {gs : Nat → Prop} {s s1 s2 : Shared} (x : GrI Z W wr gs s Z1 W1 s1) (y : GrI Z1 W1 wr1 gs s1 Z2 W2 s2) (hr : ∀ b, wr1 b → wr b ∨ s.heap.get? b = none) : GrI Z W wr gs s Z2 W2 s2 where
  ext := x.ext.trans y.ext (fun b w => w.elim (fun w => (x.wg b w).elim (fun w => .inl (.inl w)) fun q => q.elim (fun w => .inl (.inr w)) .inr) fun w => (hr b w).elim (fun w => .inl (.inr w)) .inr) (fun _ h => .inl h)
  zs := fun b z => y.zs b (x.zs b z)
  zw := fun b z => by
    rcases y.zw b z with z | w | w | d
    · exact x.zw b z
    · exact .inr (x.wg b w)
    · exact (hr b w).elim (fun w => .inr (.inr (.inl w))) fun d => .inr (.inr (.inr d))
    · rcases x.ext.dead d with d | w | w
      · exact .inr (.inr (.inr d))
      · exact .inr (.inl w)
      · exact .inr (.inr (.inl w))
  wg := fun b w => by
    rcases y.wg b w with w | w | d
    · exact x.wg b w
    · exact .inr (hr b w)
    · rcases x.ext.dead d with d | w | w
      · exact .inr (.inr d)
      · exact .inl w
      · exact .inr (.inl w)
theorem GrI.it {Z W wr Z' : Addr → Prop} {gs : Nat → Prop} {s s' : Shared} (e : ExtG wr gs s s') (z : ZG Z s Z' s') : GrI Z W wr gs s Z' W s' :=
  ⟨e.wide (fun b w => .inl (.inr w)) (fun _ h => .inl h), z.sub, fun b h => (z.new b h).elim .inl fun d => .inr (.inr (.inr d)), fun _ w => .inl w⟩
theorem GrI.fr {Z W wr Z' W' : Addr → Prop} {gs : Nat → Prop} {s s' : Shared} (g : Gr Z W s Z' W' s') : GrI Z W wr gs s Z' W' s' :=
  ⟨g.ext.wide (fun b w => .inl (.inl w)) (fun _ h => h.elim), g.zs, fun b h => (g.zw b h).elim .inl fun q => q.elim (fun w => .inr (.inl w)) fun d => .inr (.inr (.inr d)), fun b w => (g.wg b w).elim .inl fun d => .inr (.inr d)⟩

/-- a loop that has begun -/
structure ExF (G : Gc) (n : Nat) (sc : Scope) (σ : Loc) (t : Expr) (xs : List PV) (ends : Bool) (body orelse : List Stmt) (o : Out) : Prop where
  run : ∀ (F : Fi) (A : Around) (Z W Zi : Addr → Prop) (s : Shared) (I : Addr) (wr : Addr → Prop) (gs : Nat → Prop) (R : Result → Shared → Prop), F.sc = sc → F.own = true → OkA n A → St G F Z W σ s → ItAt G n ends I gs xs Zi wr s →
    (∀ b, Zi b → Z b) → (∀ b, Z b → ¬ wr b) → (∀ b, W b → ¬ wr b) → (∀ b, wr b → F.h0.get? b = none) → (∀ fl s' Z' W', GrI Z W wr gs s Z' W' s' → OutAt G F Z' W' o fl s' → R (.ok fl) s') →
    codeAny (model G.prog G.w) A (.forLoop t (.ref I) body orelse F.env) R s

theorem forTurn_at {A : Around} {F : Fi} {t : Expr} {I : Addr} {body orelse : List Stmt} {R : Result → Shared → Prop} {s : Shared}
    (h : wpAny (model G.prog G.w) A (pyNext (.ref I)) (fun r s1 => match r with
      | none => codeAny (model G.prog G.w) A (.block orelse F.env) R s1
      | some v => Plain s1.heap I ∧ wpAny (model G.prog G.w) A (assign t F.env v) (fun _ s2 => wpAny (model G.prog G.w) A (execs body F.env) (fun f s3 => match f with
          | .next | .cont => codeAny (model G.prog G.w) A (.forLoop t (.ref I) body orelse F.env) R s3
          | .brk => R (.ok .next) s3
          | .ret v => R (.ok (.ret v)) s3) (notedBy (model G.prog G.w) A F.env fun e s' => R (.error e) s') s2) (notedBy (model G.prog G.w) A F.env fun e s' => R (.error e) s') s1)
      (notedBy (model G.prog G.w) A F.env fun e s' => R (.error e) s') s) :
    codeAny (model G.prog G.w) A (.forLoop t (.ref I) body orelse F.env) R s := by
  refine codeAny_of_tree ?_
  rw [Around.under_of_weight (c := .forLoop t (.ref I) body orelse F.env) rfl rfl]
  show wpAny _ _ ((forTurn t (.ref I) body orelse F.env).onRaise (fun x => do noteFrame x F.env; theTreesLotGoes x)) _ _ s
  refine wpAny_noted ?_
  simp only [forTurn]
  refine wpAny_bind (wpAny_standAt (wpAny_bind (wpAny_onRaise (wpAny_mono h (fun r s₁ h₁ => ?_) fun _ _ h' => wpAny_standAt h'))))
  cases r with
  | none => exact wpAny_pure ⟨rfl, h₁⟩
  | some v =>
    obtain ⟨p, h₁⟩ := h₁
    refine wpAny_bind (letOwned p ?_)
    refine wpAny_bind (wpAny_mono h₁ (fun _ s₂ h₂ => wpAny_bind (wpAny_mono h₂ (fun f s₃ h₃ => ?_) fun _ _ h' => h')) fun _ _ h' => h')
    cases f with
    | next => exact wpAny_pure ⟨rfl, h₃⟩
    | cont => exact wpAny_pure ⟨rfl, h₃⟩
    | brk => exact wpAny_pure h₃
    | ret v => exact wpAny_pure h₃

theorem VarAt.step {F : Fi} {Z W wr : Addr → Prop} {gs : Nat → Prop} {s s' : Shared} (st : St G F Z W σ s) (e : ExtG wr gs s s') (hw : ∀ b, W b → ¬ wr b) (hc : F.own = false → ∀ x c, F.cells.lookup x = some c → ¬ wr c)
    {y : Str} {v : Value} (r : VarAt F s.heap y v) : VarAt F s'.heap y v := by
  rcases r with ⟨k, m, ⟨o, es, ep, q, r⟩, hm⟩ | ⟨k, c, hcl, oc, h2, h3⟩
  · exact .inl ⟨k, m, ⟨o, es, ep, e.keep _ _ (hw _ st.LW) q, r⟩, hm⟩
  · refine .inr ⟨k, c, hcl, oc, e.keep _ _ ?_ h2, h3⟩
    cases ho : F.own with
    | false => exact hc ho y c hcl
    | true =>
      obtain ⟨c', _, h1, _, h4⟩ := st.cells y (.inl ho) k
      rw [hcl] at h1; cases h1
      exact hw _ h4
/-- the frame's state behind a step of the iterator's -/
theorem St.step {F : Fi} {Z W Z' wr : Addr → Prop} {gs : Nat → Prop} {s s' : Shared} (st : St G F Z W σ s) (e : ExtG wr gs s s') (z : ZG Z s Z' s') (hw : ∀ b, W b → ¬ wr b) (hz : ∀ b, Z b → ¬ wr b) (h0 : ∀ b, wr b → F.h0.get? b = none)
    (hc : F.own = false → ∀ x c, F.cells.lookup x = some c → ¬ wr c) : St G F Z' W σ s' where
  b0 := st.b0
  hk := fun b o q => e.keep b o (fun w => by rw [h0 b w] at q; cases q) (st.hk b o q)
  bare := e.bare st.bare
  zlt := z.lt
  wlt := fun b w => let ⟨o, q⟩ := st.wlt b w; ⟨o, e.keep b o (hw b w) q⟩
  wn0 := st.wn0
  disj := fun b zb wb => (z.new b zb).elim (fun zb => st.disj b zb wb) fun le => by
    obtain ⟨o, q⟩ := st.wlt b wb
    rw [le] at q; cases q
  z0 := fun b zb => (z.new b zb).elim (fun zb => st.z0 b zb) fun le => .inr (by
    cases q : F.h0.get? b with
    | none => rfl
    | some o => rw [st.hk b o q] at le; cases le)
  z1 := fun b zb => z.sub b (st.z1 b zb)
  LW := st.LW
  kind := st.kind
  ns := by
    obtain ⟨m, o, es, ep, q, r⟩ := st.ns
    exact ⟨m, o, es, ep, e.keep _ _ (hw _ st.LW) q, r⟩
  cells := fun y ho hy => by
    obtain ⟨c, v, h1, ⟨oc, h2, h3⟩, h4⟩ := st.cells y ho hy
    exact ⟨c, v, h1, ⟨oc, e.keep _ _ (hw _ h4) h2, h3⟩, h4⟩
  inj := st.inj
  ownd := st.ownd
  vals := fun y pv hy => by
    obtain ⟨v, h1, h2⟩ := st.vals y pv hy
    exact ⟨v, h1.step st e hw hc, h2.mono z.sub fun b o zb q => e.keep b o (hz b zb) q⟩
  owns := by
    obtain ⟨ad, h1, h2⟩ := st.owns
    refine ⟨ad, fun y xs hy => ?_, h2⟩
    obtain ⟨a1, a2, vs, ⟨k, a3⟩, a4⟩ := h1 y xs hy
    exact ⟨a1, a2.step st e hw hc, vs, ⟨k, e.keep _ _ (hw _ a1) a3⟩, a4.mono z.sub fun b o zb q => e.keep b o (hz b zb) q⟩

theorem noTrue {b : Bool} {P : Prop} (h : b = true) : b = false → P := fun q => by rw [h] at q; cases q

theorem ExF.nil {t : Expr} {body orelse : List Stmt} (h1 : Ex G n sc σ orelse o) : ExF G n sc σ t [] true body orelse o := by
  refine ⟨fun F A Z W Zi s I wr gs R hsc ho ok st it hzi hz hw h0 h => ?_⟩
  refine forTurn_at ?_
  unfold ItAt at it
  have its := it.1
  refine it.2 s (Kp.refl st.bs) rfl A _ _ ok fun s1 e1 => ?_
  have z1 : ZG Z s Z s1 := ⟨fun _ z => z, fun _ z => .inl z, fun b z => let ⟨o, q⟩ := st.zlt b z; ⟨o, e1.keep b o (hz b z) q⟩⟩
  have st1 : St G F Z W σ s1 := st.step e1 z1 hw hz h0 (noTrue ho)
  refine codeAny_block (h1.run F A Z W s1 _ _ hsc ho ok st1 fun fl s2 Z2 W2 g2 o2 => ?_)
  exact h fl s2 Z2 W2 ((GrI.it e1 z1).trans (GrI.fr (wr := wr) g2) fun b w => .inl w) o2

/-- one turn: what is asked of the body -/
theorem ExF.turn {t : Expr} {x : PV} {xs : List PV} {ends : Bool} {body orelse : List Stmt} {τ : Loc} {o1 : Out} (ha : AsV G none sc σ t x τ) (hb : Ex G n sc τ body o1)
    (hn : ∀ τ', o1 = .next τ' → ExF G n sc τ' t xs ends body orelse o) (hc : ∀ τ', o1 = .cont τ' → ExF G n sc τ' t xs ends body orelse o) (hk : ∀ τ', o1 = .brk τ' → o = .next τ') (hr : ∀ p, o1 = .ret p → o = .ret p) :
    ExF G n sc σ t (x :: xs) ends body orelse o := by
  refine ⟨fun F A Z W Zi s I wr gs R hsc ho ok st it hzi hz hw h0 h => ?_⟩
  refine forTurn_at ?_
  unfold ItAt at it
  have its := it.1
  refine it.2 s Z (Kp.refl st.bs) hzi hz st.zlt A _ _ ok fun v s1 Z1 wr1 e1 z1 r1 it1 hwr1 => ?_
  have its1 := it1.its
  refine ⟨its1.plain, ?_⟩
  have st1 : St G F Z1 W σ s1 := st.step e1 z1 hw hz h0 (noTrue ho)
  have g1 : GrI Z W wr gs s Z1 W s1 := GrI.it e1 z1
  have hw1 : ∀ b, W b → ¬ wr1 b := fun b wb q => (hwr1 b q).elim (hw b wb) fun d => by
    obtain ⟨o, e⟩ := st.wlt b wb
    rw [d] at e; cases e
  refine ha.run F A Z1 W s1 v _ _ hsc ho ok.1 st1 r1 fun s2 g2 st2 => ?_
  refine hb.run F A Z1 W s2 _ _ hsc ho ok st2 fun fl s3 Z3 W3 g3 o3 => ?_
  have g13 := g2.trans g3
  have g03 := g1.trans (GrI.fr (wr := wr) (gs := gs) g13) fun b w => .inl w
  have again : ∀ τ', St G F Z3 W3 τ' s3 → ExF G n sc τ' t xs ends body orelse o → codeAny (model G.prog G.w) A (.forLoop t (.ref I) body orelse F.env) R s3 := fun τ' st3 ih => by
    have kp : Kp G Z1 wr1 gs s1 s3 := ⟨st3.bs, fun b o q e => g13.ext.keep b o (fun wb => q.elim (fun z => st1.disj b z wb) (hw1 b wb)) e, fun g hg => by
      have hlt := its1.glt g hg
      obtain ⟨x, hx⟩ : ∃ x, s1.gens[g]? = some x := ⟨_, Array.getElem?_eq_getElem hlt⟩
      rw [hx]; exact g13.ext.gens g x (fun f => f) hx⟩
    refine ih.run F A Z3 W3 Z1 s3 I wr1 gs R hsc ho ok st3 (it1.kp kp g13.ext.gsize) g13.zs ?_ ?_ ?_ fun fl s4 Z4 W4 g4 o4 => h fl s4 Z4 W4 (g03.trans g4 hwr1) o4
    · intro b z q
      rcases g13.zw b z with z | w | d
      · exact its1.apart b z q
      · exact hw1 b w q
      · obtain ⟨o, e⟩ := its1.live b q; rw [d] at e; cases e
    · intro b w q
      rcases g13.wg b w with w | d
      · exact hw1 b w q
      · obtain ⟨o, e⟩ := its1.live b q; rw [d] at e; cases e
    · intro b q
      rcases hwr1 b q with w | d
      · exact h0 b w
      · cases q : F.h0.get? b with
        | none => rfl
        | some o => rw [st.hk b o q] at d; cases d
  cases o1 with
  | next τ' => obtain ⟨rfl, st3⟩ := o3; exact again τ' st3 (hn τ' rfl)
  | cont τ' => obtain ⟨rfl, st3⟩ := o3; exact again τ' st3 (hc τ' rfl)
  | brk τ' =>
    obtain ⟨rfl, st3⟩ := o3
    have := hk τ' rfl
    subst this
    exact h _ s3 Z3 W3 g03 ⟨rfl, st3⟩
  | ret p =>
    obtain ⟨v', rfl, r3, st3⟩ := o3
    have := hr p rfl
    subst this
    exact h _ s3 Z3 W3 g03 ⟨v', rfl, r3, st3⟩
theorem ExF.next {t : Expr} {x : PV} {xs : List PV} {ends : Bool} {body orelse : List Stmt} {τ τ' : Loc} (ha : AsV G none sc σ t x τ) (hb : Ex G n sc τ body (.next τ')) (h : ExF G n sc τ' t xs ends body orelse o) :
    ExF G n sc σ t (x :: xs) ends body orelse o := ExF.turn ha hb (fun _ e => by cases e; exact h) (fun _ e => by cases e) (fun _ e => by cases e) (fun _ e => by cases e)
theorem ExF.brk {t : Expr} {x : PV} {xs : List PV} {ends : Bool} {body orelse : List Stmt} {τ τ' : Loc} (ha : AsV G none sc σ t x τ) (hb : Ex G n sc τ body (.brk τ')) :
    ExF G n sc σ t (x :: xs) ends body orelse (.next τ') := ExF.turn ha hb (fun _ e => by cases e) (fun _ e => by cases e) (fun _ e => by cases e; rfl) (fun _ e => by cases e)
theorem ExF.ret {t : Expr} {x p : PV} {xs : List PV} {ends : Bool} {body orelse : List Stmt} {τ : Loc} (ha : AsV G none sc σ t x τ) (hb : Ex G n sc τ body (.ret p)) :
    ExF G n sc σ t (x :: xs) ends body orelse (.ret p) := ExF.turn ha hb (fun _ e => by cases e) (fun _ e => by cases e) (fun _ e => by cases e) (fun _ e => by cases e; rfl)
theorem ExF.weak {t : Expr} {xs : List PV} {ends : Bool} {body orelse : List Stmt} (h1 : ExF G n sc τ t xs ends body orelse o) (h : ∀ y sl, τ.lookup y = some sl → σ.lookup y = some sl) : ExF G n sc σ t xs ends body orelse o :=
  ⟨fun F A Z W Zi s I wr gs R hsc ho ok st => h1.run F A Z W Zi s I wr gs R hsc ho ok (st.weak h)⟩

theorem Ex1.for_ {t e : Expr} {xs : List PV} {ends : Bool} {body orelse : List Stmt} {pos} (h1 : EvI G n sc σ e xs ends) (h2 : ExF G n sc σ t xs ends body orelse o) (hs : ∀ env x, foldedSetIterable e env x = pure x) :
    Ex1 G n sc σ (.For t e body orelse pos) o := by
  refine ⟨fun F A Z W s Q E hsc ho ok st h => ?_⟩
  refine wpAny_For (h1.run F A Z W s _ _ hsc ok st fun I s1 Z1 wr gs e1 z1 it hwr hgs => ?_) (hs _)
  have its := it.its
  refine h2.run F A Z1 W Z1 s1 I wr gs _ hsc ho ok (st.ext e1 z1) it (fun _ z => z) its.apart (fun b w q => ?_) (fun b q => ?_) fun fl s2 Z2 W2 g2 o2 => ?_
  · obtain ⟨o, e⟩ := st.wlt b w
    rw [hwr b q] at e; cases e
  · cases e : F.h0.get? b with
    | none => rfl
    | some o => have := hwr b q; rw [st.hk b o e] at this; cases this
  · have ga : Gr Z W s Z1 W s1 := Gr.of e1 z1
    refine h fl s2 Z2 W2 ⟨ga.ext.trans g2.ext (fun b w => w.elim .inl fun w => .inr (hwr b w)) (fun g hg => .inr (hgs g hg)), fun b z => g2.zs b (ga.zs b z), fun b z => ?_, fun b w => ?_⟩ o2
    · rcases g2.zw b z with z | w | w | d
      · exact ga.zw b z
      · exact .inr (.inl w)
      · exact .inr (.inr (hwr b w))
      · exact .inr (.inr (Ext0.dead e1 d))
    · rcases g2.wg b w with w | w | d
      · exact .inl w
      · exact .inr (hwr b w)
      · exact .inr (Ext0.dead e1 d)
end
end Mine
namespace Mine

/-- an iterator of the library's, its items known -/
theorem ItAt.ofWalks {G : Gc} {n : Nat} {I : Addr} {fp : List Addr} {m : Nat} {P : Nat → Value → Prop} {S : Nat → Heap → Prop} {T : String} (W : ∀ A : Around, A.handled = none → Walks G.prog G.w A I fp [I] m P S)
    (xs : List PV) (hlen : xs.length = m) (hT : ownerNames.contains T = false) (hS : ∀ i h, S i h → ∃ o, h.get? I = some o ∧ o.cls = .type T) {Z0 : Addr → Prop} {s0 : Shared} (hfp : ∀ b ∈ fp, b = I ∨ Z0 b)
    (hP : ∀ i x v, xs[i]? = some x → P i v → Rep Z0 s0.heap x v) :
    ∀ (k i : Nat) (Z : Addr → Prop) (s : Shared), m - i = k → i ≤ m → S i s.heap → (∀ b, Z0 b → Z b) → (∀ b o, Z0 b → s0.heap.get? b = some o → s.heap.get? b = some o) → (∀ b, Z b → b ≠ I) →
      ItAt G n true I (fun _ => False) (xs.drop i) Z (fun b => b = I) s := by
  have st : ∀ (Z : Addr → Prop) (s s' : Shared) i, (∀ b, Z0 b → Z b) → S i s.heap → Kp G Z (fun b => b = I) (fun _ => False) s s' → S i s'.heap := fun Z s s' i hz h k =>
    (W { } rfl).frame i _ _ h fun b hb o e => k.keep b o ((hfp b hb).elim .inr fun z => .inl (hz b z)) e
  have its : ∀ i (Z : Addr → Prop) (s : Shared), S i s.heap → (∀ b, Z0 b → Z b) → (∀ b, Z b → b ≠ I) → ItS G n I Z (fun b => b = I) (fun _ => False) s := fun i Z s h hz hI =>
    { mem := rfl
      live := fun b e => by
        have e : b = I := e
        subst e; obtain ⟨o, q, _⟩ := hS i _ h; exact ⟨o, q⟩
      apart := hI
      glt := fun _ h => h.elim
      plain := let ⟨o, q, c⟩ := hS i _ h; ⟨o, T, q, c, hT⟩
      self := fun s' k A Q E ok q => (W A ok.1).self i s' Q E (st Z s s' i hz h k) q }
  intro k
  induction k with
  | zero =>
    intro i Z s hk hi hs hz hz0 hI
    have : i = m := by omega
    subst this
    rw [List.drop_of_length_le (by omega)]
    unfold ItAt
    refine ⟨its _ Z s hs hz hI, fun s' k _ A Q E ok h => ?_⟩
    refine (W A ok.1).done s' Q E (st Z s s' _ hz hs k) fun h' tk hk' => ?_
    refine h _ ⟨fun b o nb e => hk' b o (fun q => nb (List.mem_singleton.mp q)) e, Nat.le_refl _, fun _ _ _ e => e, rfl, fun x => x⟩
  | succ k ih =>
    intro i Z s hk hi hs hz hz0 hI
    have hlt : i < xs.length := by omega
    rw [List.drop_eq_getElem_cons hlt]
    unfold ItAt
    refine ⟨its _ Z s hs hz hI, fun s' Zc k' hzc hzI lv A Q E ok h => ?_⟩
    refine (W A ok.1).item i s' Q E (by omega) (st Z s s' _ hz hs k') fun v h' tk hp hs' hk' => ?_
    have ext : ExtG (fun b => b = I) (fun _ => False) s' { s' with heap := h', toks := tk } := ⟨fun b o nb e => hk' b o (fun q => nb (List.mem_singleton.mp q)) e, Nat.le_refl _, fun _ _ _ e => e, rfl, fun x => x⟩
    have zg : ZG Zc s' Zc { s' with heap := h', toks := tk } := ⟨fun _ z => z, fun _ z => .inl z, fun b z => let ⟨o, e⟩ := lv b z; ⟨o, ext.keep b o (hzI b z) e⟩⟩
    have kz : ∀ b o, Z0 b → s0.heap.get? b = some o → h'.get? b = some o := fun b o z e => ext.keep b o (hI b (hz b z)) (k'.keep b o (.inl (hz b z)) (hz0 b o z e))
    refine h v _ Zc (fun b => b = I) ext zg ?_ ?_ fun b e => .inl e
    · exact (hP i xs[i] v (List.getElem?_eq_getElem hlt) hp).mono (fun b z => hzc b (hz b z)) kz
    · exact ih (i + 1) Zc _ (by omega) (by omega) hs' (fun b z => hzc b (hz b z)) kz hzI

section
variable {G : Gc} {n : Nat} {σ : Loc} {sc : Scope}

theorem EvI.list {e : Expr} {xs : List PV} (h1 : Ev G n sc σ e (.list xs)) : EvI G n sc σ e xs true := by
  refine ⟨fun F A Z W s Q E hsc ok st h => ?_⟩
  refine h1.run F A Z W s _ _ hsc ok st fun v s1 Z1 e1 z1 r1 => ?_
  simp only [Rep] at r1
  obtain ⟨a, vs, rfl, za, hL, rs⟩ := r1
  refine wpAny_pyIter_list hL ?_
  have e2 := Ext0.push s1 { cls := .type "list_iterator", data := .fields #[.ref a, .int 0 0] } s1.toks
  have z2 := ZG.same z1.lt e2
  have hne : a ≠ s1.heap.objs.size := fun q => not_live z1.lt (none_size _) (q ▸ za)
  have it := ItAt.ofWalks (G := G) (n := n) (T := "list_iterator") (fun A hA => Walks.list (prog := G.prog) (w := G.w) (A := A) hA s1.heap.objs.size a hne vs.toArray) xs (by rw [List.size_toArray, rs.length]) (by decide)
    (fun i h q => by obtain ⟨o, h1, h2, _⟩ := q.1; exact ⟨o, h1, h2⟩) (Z0 := Z1) (s0 := s1) (fun b hb => by
      rcases List.mem_cons.mp hb with rfl | hb
      · exact .inl rfl
      · rcases List.mem_cons.mp hb with rfl | hb
        · exact .inr za
        · cases hb) (fun i x v hx hv => by
      obtain ⟨v', hv', rv⟩ := rs.get hx
      have hv : vs[i]? = some v := by simpa using hv
      rw [hv'] at hv; cases hv; exact rv)
    vs.toArray.size 0 Z1 _ rfl (Nat.zero_le _) ⟨⟨_, Heap.get?_push_size _ rfl, rfl, rfl⟩, hL.push _⟩ (fun _ z => z) (fun b o z q => e2.keep' b o q) (fun b z q => not_live z1.lt (none_size _) (q ▸ z))
  exact h _ _ Z1 _ _ (e1.trans' e2) (z1.trans z2 e1) it (fun b q => by have q : b = _ := q; subst q; exact Ext0.dead e1 (none_size _)) (fun g q => q.elim)
theorem EvI.tup {e : Expr} {xs : List PV} (h1 : Ev G n sc σ e (.tup xs)) : EvI G n sc σ e xs true := by
  refine ⟨fun F A Z W s Q E hsc ok st h => ?_⟩
  refine h1.run F A Z W s _ _ hsc ok st fun v s1 Z1 e1 z1 r1 => ?_
  simp only [Rep] at r1
  obtain ⟨a, vs, rfl, za, hL, rs⟩ := r1
  refine wpAny_pyIter_tuple hL ?_
  have e2 := Ext0.push s1 { cls := .type "tuple_iterator", data := .fields #[.ref a, .int 0 0] } s1.toks
  have z2 := ZG.same z1.lt e2
  have hne : a ≠ s1.heap.objs.size := fun q => not_live z1.lt (none_size _) (q ▸ za)
  have it := ItAt.ofWalks (G := G) (n := n) (T := "tuple_iterator") (fun A hA => Walks.tuple (prog := G.prog) (w := G.w) (A := A) hA s1.heap.objs.size a hne vs.toArray) xs (by rw [List.size_toArray, rs.length]) (by decide)
    (fun i h q => by obtain ⟨o, h1, h2, _⟩ := q.1; exact ⟨o, h1, h2⟩) (Z0 := Z1) (s0 := s1) (fun b hb => by
      rcases List.mem_cons.mp hb with rfl | hb
      · exact .inl rfl
      · rcases List.mem_cons.mp hb with rfl | hb
        · exact .inr za
        · cases hb) (fun i x v hx hv => by
      obtain ⟨v', hv', rv⟩ := rs.get hx
      have hv : vs[i]? = some v := by simpa using hv
      rw [hv'] at hv; cases hv; exact rv)
    vs.toArray.size 0 Z1 _ rfl (Nat.zero_le _) ⟨⟨_, Heap.get?_push_size _ rfl, rfl, rfl⟩, hL.push _⟩ (fun _ z => z) (fun b o z q => e2.keep' b o q) (fun b z q => not_live z1.lt (none_size _) (q ▸ z))
  exact h _ _ Z1 _ _ (e1.trans' e2) (z1.trans z2 e1) it (fun b q => by have q : b = _ := q; subst q; exact Ext0.dead e1 (none_size _)) (fun g q => q.elim)

def signs (c : Tx) : List PV := c.map fun x => .str [x]
theorem EvI.str {e : Expr} {c : Tx} (h1 : Ev G n sc σ e (.str c)) : EvI G n sc σ e (signs c) true := by
  refine ⟨fun F A Z W s Q E hsc ok st h => ?_⟩
  refine h1.run F A Z W s _ _ hsc ok st fun v s1 Z1 e1 z1 r1 => ?_
  simp only [Rep] at r1
  obtain ⟨t, rfl⟩ := r1
  have fin : ∀ (T : String) (S : Nat → Heap → Prop), ownerNames.contains T = false → (∀ i h, S i h → ∃ o, h.get? s1.heap.objs.size = some o ∧ o.cls = .type T) → (o : Obj) → o.isFreed = false → S 0 (s1.heap.push o) →
      (∀ A' : Around, A'.handled = none → Walks G.prog G.w A' s1.heap.objs.size [s1.heap.objs.size] [s1.heap.objs.size] (mkS c).cps.size (SignAt (mkS c)) S) → Q (.ref s1.heap.objs.size) { s1 with heap := s1.heap.push o } := by
    intro T S hT hS o hfr hs0 hw
    have e2 := Ext0.push s1 o s1.toks
    have z2 := ZG.same z1.lt e2
    have it := ItAt.ofWalks (G := G) (n := n) (T := T) hw (signs c) (by simp [signs, mkS]) hT hS (Z0 := Z1) (s0 := s1) (fun b hb => .inl (List.mem_singleton.mp hb)) (fun i x v hx hv => by
        obtain ⟨cc, u, h1, rfl⟩ := hv
        have h1 : c[i]? = some cc := by simpa [mkS] using h1
        simp only [signs, List.getElem?_map, h1, Option.map_some, Option.some.injEq] at hx
        subst hx
        simp [Rep, mkS])
      (mkS c).cps.size 0 Z1 { s1 with heap := s1.heap.push o } rfl (Nat.zero_le _) hs0 (fun _ z => z) (fun b o z q => e2.keep' b o q) (fun b z q => not_live z1.lt (none_size _) (q ▸ z))
    exact h _ _ Z1 _ _ (e1.trans' e2) (z1.trans z2 e1) it (fun b q => by have q : b = _ := q; subst q; exact Ext0.dead e1 (none_size _)) (fun g q => q.elim)
  cases ha : (mkS c).cps.all (· < 128)
  · exact wpAny_pyIter_wide ha (fin "str_iterator" _ (by decide) (fun i h q => by obtain ⟨o, h1, h2, _⟩ := q; exact ⟨o, h1, h2⟩) _ rfl ⟨_, Heap.get?_push_size _ rfl, rfl, rfl⟩ fun A' hA => Walks.strWide hA _ (mkS c) t)
  · exact wpAny_pyIter_ascii ha (fin "str_ascii_iterator" _ (by decide) (fun i h q => by obtain ⟨o, h1, h2, _⟩ := q; exact ⟨o, h1, h2⟩) _ rfl ⟨_, Heap.get?_push_size _ rfl, rfl, rfl⟩ fun A' hA => Walks.strAscii hA _ (mkS c) t)

theorem EvI.rng {e : Expr} {lo hi st : Int} {m : Nat} (h1 : Ev G n sc σ e (.rng lo hi st)) (hs : Builtin.Range.small lo hi st = true) (hm : Builtin.Range.rangeSize lo hi st = m) :
    EvI G n sc σ e ((List.range m).map fun (k : Nat) => .int (lo + (k : Int) * st)) true := by
  refine ⟨fun F A Z W s Q E hsc ok st' h => ?_⟩
  refine h1.run F A Z W s _ _ hsc ok st' fun v s1 Z1 e1 z1 r1 => ?_
  simp only [Rep] at r1
  obtain ⟨a, t, u, w, rfl, za, hr⟩ := r1
  refine wpAny_pyIter_range hr hs ?_
  have e2 := Ext0.push s1 { cls := .type "range_iterator", data := .fields #[rawInt lo, rawInt (Builtin.Range.rangeSize lo hi st), rawInt st] } s1.toks
  have z2 := ZG.same z1.lt e2
  have it := ItAt.ofWalks (G := G) (n := n) (T := "range_iterator") (fun A hA => Walks.range (prog := G.prog) (w := G.w) (A := A) hA s1.heap.objs.size lo st m) ((List.range m).map fun (k : Nat) => .int (lo + (k : Int) * st)) (by simp) (by decide)
    (fun i h q => ⟨_, q, rfl⟩) (Z0 := Z1) (s0 := s1) (fun b hb => .inl (List.mem_singleton.mp hb)) (fun i x v hx hv => by
      obtain ⟨t, rfl⟩ := hv
      simp only [List.getElem?_map] at hx
      obtain ⟨j, hj, rfl⟩ := Option.map_eq_some_iff.mp hx
      have : j = i := by
        have := List.getElem?_range (n := m) (i := i)
        obtain ⟨hlt, e⟩ := List.getElem?_eq_some_iff.mp hj
        simpa using e.symm
      subst this
      simp [Rep])
    m 0 Z1 { s1 with heap := s1.heap.push { cls := .type "range_iterator", data := .fields #[rawInt lo, rawInt (Builtin.Range.rangeSize lo hi st), rawInt st] } } rfl (Nat.zero_le _) (by show IsRangeIter _ _ _ _ _; rw [hm]; simpa using Heap.get?_push_size _ rfl) (fun _ z => z) (fun b o z q => e2.keep' b o q) (fun b z q => not_live z1.lt (none_size _) (q ▸ z))
  exact h _ _ Z1 _ _ (e1.trans' e2) (z1.trans z2 e1) it (fun b q => by have q : b = _ := q; subst q; exact Ext0.dead e1 (none_size _)) (fun g q => q.elim)
end
end Mine
namespace Mine

/-- the captured names' cells -/
def clGo (cells : List (Str × Addr)) : List (Str × NameKind) → List (Str × Addr) → List (Str × Addr)
  | [], acc => acc
  | (n, k) :: r, acc => clGo cells r (if k == .free then (match cells.lookup n with | some a => (n, a) :: acc | none => acc) else acc)

theorem closureGo (env : Env) : ∀ (names : List (Str × NameKind)) (acc : List (Str × Addr)), (∀ p ∈ names, p.2 = .free → ∃ a, env.cells.lookup p.1 = some a) →
    (forIn names acc fun x cs => (if (x.2 == NameKind.free) = true then do let a ← cellOf env x.1; pure (ForInStep.yield ((x.1, a) :: cs)) else pure (ForInStep.yield cs) : Sem (ForInStep (List (Str × Addr))))) = pure (clGo env.cells names acc)
  | [], acc, _ => rfl
  | (n, k) :: r, acc, h => by
    rw [List.forIn_cons]
    unfold clGo
    by_cases hk : k == NameKind.free
    · obtain ⟨a, ha⟩ := h (n, k) (.head _) (beq_iff_eq.mp hk)
      dsimp only at ha ⊢
      rw [if_pos hk, if_pos hk]
      unfold cellOf
      rw [ha]
      exact closureGo env r _ fun p hp => h p (.tail _ hp)
    · dsimp only
      rw [if_neg hk, if_neg hk]
      exact closureGo env r _ fun p hp => h p (.tail _ hp)
theorem closure_eq {scope : Scope} {env : Env} (h : ∀ p ∈ scope.names, p.2 = .free → ∃ a, env.cells.lookup p.1 = some a) : closureFor scope env = pure (clGo env.cells scope.names []) := by
  have := closureGo env scope.names [] h
  unfold closureFor
  first
    | exact this
    | (show (forIn scope.names [] _ >>= _) = _
       have e := this
       rw [show (fun (x : Str × NameKind) (cs : List (Str × Addr)) => (if (x.2 == NameKind.free) = true then do let a ← cellOf env x.1; pure (ForInStep.yield ((x.1, a) :: cs)) else pure (ForInStep.yield cs) : Sem (ForInStep (List (Str × Addr))))) = _ from rfl] at e
       simp only [bind_pure]
       exact e)
theorem clGo_get (cells : List (Str × Addr)) : ∀ (names : List (Str × NameKind)) (acc : List (Str × Addr)) (x : Str) (a : Addr), (clGo cells names acc).lookup x = some a → (cells.lookup x = some a ∧ (x, NameKind.free) ∈ names) ∨ acc.lookup x = some a
  | [], acc, x, a, h => .inr h
  | (n, k) :: r, acc, x, a, h => by
    unfold clGo at h
    rcases clGo_get cells r _ x a h with h | h
    · exact .inl ⟨h.1, .tail _ h.2⟩
    · split at h
      · rename_i hk
        split at h
        · rename_i b hb
          by_cases q : x = n
          · subst q; rw [lookup_cons_self] at h; cases h; exact .inl ⟨hb, by rw [beq_iff_eq.mp hk]; exact .head _⟩
          · rw [lookup_cons_ne _ _ q] at h; exact .inr h
        · exact .inr h
      · exact .inr h
theorem clGo_has (cells : List (Str × Addr)) : ∀ (names : List (Str × NameKind)) (acc : List (Str × Addr)) (x : Str) (a : Addr), cells.lookup x = some a → ((x, NameKind.free) ∈ names ∨ acc.lookup x = some a) → (∀ b, acc.lookup x = some b → b = a) →
    (clGo cells names acc).lookup x = some a
  | [], acc, x, a, hc, h, hu => by
    rcases h with h | h
    · cases h
    · exact h
  | (n, k) :: r, acc, x, a, hc, h, hu => by
    unfold clGo
    by_cases hk : k == NameKind.free
    · rw [if_pos hk]
      by_cases q : n = x
      · subst q
        rw [hc]
        exact clGo_has cells r _ n a hc (.inr (lookup_cons_self ..)) fun b hb => by rw [lookup_cons_self] at hb; cases hb; rfl
      · have q' : x ≠ n := fun e => q e.symm
        have mem : (x, NameKind.free) ∈ r ∨ acc.lookup x = some a := h.imp (fun h => by
          rcases List.mem_cons.mp h with e | h
          · cases e; exact absurd rfl q
          · exact h) id
        split
        · exact clGo_has cells r _ x a hc (mem.imp id fun h => by rw [lookup_cons_ne _ _ q']; exact h) fun b hb => hu b (by rw [lookup_cons_ne _ _ q'] at hb; exact hb)
        · exact clGo_has cells r _ x a hc mem hu
    · rw [if_neg hk]
      refine clGo_has cells r _ x a hc (h.imp (fun h => ?_) id) hu
      rcases List.mem_cons.mp h with e | h
      · cases e; exact absurd rfl hk
      · exact h

/-- the comprehension's own table: what it captures are cells -/
def relab (scope sc : Scope) : Scope :=
  { scope with names := scope.names.map fun (n, k) => if (k == .free && sc.kind == .function && sc.names.lookup n == some .cell) then (n, .cell) else (n, k) }

/-- the comprehension's own cells: captured by another within -/
def cellNames (scope : Scope) : List Str := (scope.names.filter fun p => p.2 == .cell).map (·.1)
def compCells (F : Fi) (scope : Scope) (C : Addr) : List (Str × Addr) := cellsFrom (C + 1) scope.names (clGo F.cells scope.names [])
def compFi (F : Fi) (scope : Scope) (C : Addr) (Z0 : Addr → Prop) (h0 : Heap) : Fi :=
  { sc := relab scope F.sc, L := C, cells := compCells F scope C, q := F.q, fn := none, cd := F.cd, fr := F.fr, own := false, mine := cellNames scope, Z0 := Z0, h0 := h0 }

/-- the tests of one clause -/
inductive Tests (G : Gc) (n : Nat) (sc : Scope) (σ : Loc) : List Expr → Bool → Prop
  | nil : Tests G n sc σ [] true
  | one {t : Expr} {b : Bool} : EvT G n sc σ t b → Tests G n sc σ [t] b
theorem Tests.run {G : Gc} {n : Nat} {sc : Scope} {σ : Loc} {ifs : List Expr} {b : Bool} (x : Tests G n sc σ ifs b) {F : Fi} {A : Around} {Z W : Addr → Prop} {s : Shared} {Q : Bool → Shared → Prop} {E : Value → Shared → Prop} (hsc : F.sc = sc) (ok : OkA n A)
    (st : St G F Z W σ s) (h : ∀ s' Z', Ext0 s s' → ZG Z s Z' s' → Q b s') :
    wpAny (model G.prog G.w) A (forIn ifs true fun c r => if r = true then do let ok ← isTrue c F.env (eval c F.env); pure (ForInStep.yield ok) else pure (ForInStep.yield r)) Q E s := by
  cases x with
  | nil => exact wpAny_tests_nil (h s Z (ExtG.refl ..) (ZG.refl st.zlt))
  | one h1 => exact wpAny_tests_one (h1.run F A Z W s _ _ hsc ok st h)

/-- what the items give -/
inductive CompOk (G : Gc) (n : Nat) (mn : List Str) (sc : Scope) (σ : Loc) (t : Expr) (ifs : List Expr) (elt : Expr) : List PV → List PV → Prop
  | nil : CompOk G n mn sc σ t ifs elt [] []
  | cons {x y : PV} {xs ys : List PV} {τ : Loc} {b : Bool} : AsV G (some mn) sc σ t x τ → Tests G n sc τ ifs b → (b = true → Ev G n sc τ elt y) → CompOk G n mn sc σ t ifs elt xs ys → (∀ y sl, σ.lookup y = some sl → τ.lookup y = some sl) →
      CompOk G n mn sc σ t ifs elt (x :: xs) (if b then y :: ys else ys)

theorem CompOk.len {G : Gc} {n : Nat} {mn : List Str} {sc : Scope} {σ : Loc} {t : Expr} {ifs : List Expr} {elt : Expr} {xs ys : List PV} (h : CompOk G n mn sc σ t ifs elt xs ys) : ys.length ≤ xs.length := by
  induction h with
  | nil => exact Nat.le_refl _
  | @cons _ _ _ _ _ b _ _ _ _ _ ih => cases b <;> simp <;> omega

section
variable {G : Gc} {n : Nat} {σ τ : Loc} {sc : Scope}

theorem compTurn_list' (elt target iter : Expr) (ifs : List Expr) (scope : Scope) (pos : Pos) (it acc : Value) (env : Env) :
    compTurn (.ListComp elt [⟨target, iter, ifs, 0⟩] scope pos) 0 it acc env = (do
      standAt iter.pos
      match ← pyNext it with
      | none => pure (.done .next)
      | some v =>
        letOwnedTupleGo target it v
        assign target env v
        let mut ok := true
        for c in ifs do
          if ok then ok ← isTrue c env (eval c env)
        if ok then
          (do let _ ← call (.builtin "list.append") [acc, ← eval elt env])
        again (.compLoop (.ListComp elt [⟨target, iter, ifs, 0⟩] scope pos) 0 it acc env)) := by rfl

/-- what one turn of a comprehension's loop asks -/
def LoopRule (G : Gc) (A : Around) (env : Env) (t elt : Expr) (ifs : List Expr) (cd : Code) (I D : Addr) (R : Result → Shared → Prop) : Prop := ∀ s : Shared,
    wpAny (model G.prog G.w) A (pyNext (.ref I)) (fun r s1 => match r with
      | none => R (.ok .next) s1
      | some v => Plain s1.heap I ∧ wpAny (model G.prog G.w) A (assign t env v) (fun _ s2 =>
          wpAny (model G.prog G.w) A (forIn ifs true fun c r => if r = true then do let ok ← isTrue c env (eval c env); pure (ForInStep.yield ok) else pure (ForInStep.yield r)) (fun ok s3 =>
            if ok = true then wpAny (model G.prog G.w) A (eval elt env) (fun x s4 =>
              wpAny (model G.prog G.w) A (call (.builtin "list.append") [.ref D, x]) (fun _ s5 => codeAny (model G.prog G.w) A cd R s5) (notedBy (model G.prog G.w) A env fun e s' => R (.error e) s') s4) (notedBy (model G.prog G.w) A env fun e s' => R (.error e) s') s3
            else codeAny (model G.prog G.w) A cd R s3) (notedBy (model G.prog G.w) A env fun e s' => R (.error e) s') s2) (notedBy (model G.prog G.w) A env fun e s' => R (.error e) s') s1)
      (notedBy (model G.prog G.w) A env fun e s' => R (.error e) s') s → codeAny (model G.prog G.w) A cd R s
theorem compLoop_at {A : Around} {env : Env} {elt t iter : Expr} {ifs : List Expr} {scope : Scope} {pos : Pos} {I D : Addr} {R : Result → Shared → Prop} :
    LoopRule G A env t elt ifs (.compLoop (.ListComp elt [⟨t, iter, ifs, 0⟩] scope pos) 0 (.ref I) (.ref D) env) I D R := by
  intro s h
  refine codeAny_of_tree ?_
  rw [Around.under_of_weight (c := .compLoop (.ListComp elt [⟨t, iter, ifs, 0⟩] scope pos) 0 (.ref I) (.ref D) env) rfl rfl]
  show wpAny _ A ((compTurn (.ListComp elt [⟨t, iter, ifs, 0⟩] scope pos) 0 (.ref I) (.ref D) env).onRaise (fun x => do noteFrame x env; theTreesLotGoes x)) _ _ s
  refine wpAny_noted ?_
  rw [compTurn_list']
  refine wpAny_bind (wpAny_standAt (wpAny_bind (wpAny_mono h (fun r s₁ h₁ => ?_) fun _ _ h' => h')))
  cases r with
  | none => exact wpAny_pure h₁
  | some v =>
    obtain ⟨p, h₁⟩ := h₁
    refine wpAny_bind (letOwned p ?_)
    refine wpAny_bind (wpAny_mono h₁ (fun _ s₂ h₂ => wpAny_bind (wpAny_mono h₂ (fun ok s₃ h₃ => ?_) fun _ _ h' => h')) fun _ _ h' => h')
    cases ok with
    | false => exact wpAny_pure ⟨rfl, h₃⟩
    | true =>
      exact wpAny_bind (wpAny_bind (wpAny_mono h₃ (fun x s₄ h₄ => wpAny_bind (wpAny_mono h₄ (fun _ s₅ h₅ => wpAny_pure (wpAny_pure ⟨rfl, h₅⟩)) fun _ _ h' => h')) fun _ _ h' => h'))

/-- the loop of a comprehension -/
theorem comp_loop {elt t : Expr} {ifs : List Expr} {cd : Code} {F : Fi} {A : Around} {I D : Addr} {gs : Nat → Prop} {R : Result → Shared → Prop} {mn : List Str} (hat : LoopRule G A F.env t elt ifs cd I D R) (hsc : F.sc = sc) (hown : F.own = false) (hmn : ∀ x ∈ mn, x ∈ F.mine) (ok : OkA n A) :
    ∀ {xs ys : List PV}, CompOk G n mn sc σ t ifs elt xs ys → ∀ (Z W Zi wr : Addr → Prop) (s : Shared) (accs : List PV) (vs : List Value), St G F Z W σ s → ItAt G n true I gs xs Zi wr s → (∀ b, Zi b → Z b) → (∀ b, Z b → ¬ wr b) → (∀ b, W b → ¬ wr b) →
      (∀ b, wr b → F.h0.get? b = none) → (∀ x c, F.cells.lookup x = some c → (∃ o, s.heap.get? c = some o) ∧ ¬ wr c ∧ c ≠ D) → ¬ wr D → ¬ Z D → ¬ W D → F.h0.get? D = none → s.heap.PlainList D vs.toArray → Reps Z s.heap accs vs → accs.length + xs.length ≤ 1000000 →
      (∀ s' Z' ws, GrI Z W (fun b => wr b ∨ b = D) gs s Z' W s' → ¬ Z' D → St G F Z' W σ s' → s'.heap.PlainList D ws.toArray → Reps Z' s'.heap (accs ++ ys) ws → R (.ok .next) s') →
      codeAny (model G.prog G.w) A cd R s := by
  unfold LoopRule at hat
  intro xs ys hc
  induction hc with
  | nil =>
    intro Z W Zi wr s accs vs st it hzi hz hw h0 hcl hwD hzD hWD hD0 hp hr hlen h
    refine hat _ ?_
    unfold ItAt at it
    refine it.2 s (Kp.refl st.bs) rfl A _ _ ok fun s1 e1 => ?_
    have z1 : ZG Z s Z s1 := ⟨fun _ z => z, fun _ z => .inl z, fun b z => let ⟨o, q⟩ := st.zlt b z; ⟨o, e1.keep b o (hz b z) q⟩⟩
    have st1 : St G F Z W σ s1 := st.step e1 z1 hw hz h0 fun _ y c hy => (hcl y c hy).2.1
    obtain ⟨k, hp⟩ := hp
    refine h s1 Z vs (GrI.it (e1.wide (fun b w => .inl (.inl w)) (fun _ h => .inl h)) z1) hzD st1 ⟨k, e1.keep _ _ hwD hp⟩ ?_
    rw [List.append_nil]
    exact hr.mono (fun _ z => z) fun b o z e => e1.keep b o (hz b z) e
  | @cons x y xs ys τ b ha ht he hrest hsub ih =>
    intro Z W Zi wr s accs vs st it hzi hz hw h0 hcl hwD hzD hWD hD0 hp hr hlen h
    refine hat _ ?_
    unfold ItAt at it
    refine it.2 s Z (Kp.refl st.bs) hzi hz st.zlt A _ _ ok fun v s1 Z1 wr1 e1 z1 r1 it1 hwr1 => ?_
    have its1 := it1.its
    refine ⟨its1.plain, ?_⟩
    have lD : ∃ o, s.heap.get? D = some o := let ⟨k, e⟩ := hp; ⟨_, e⟩
    have hwD1 : ¬ wr1 D := fun q => (hwr1 D q).elim hwD fun d => by obtain ⟨o, e⟩ := lD; rw [d] at e; cases e
    have hw1 : ∀ b, W b → ¬ wr1 b := fun b wb q => (hwr1 b q).elim (hw b wb) fun d => by obtain ⟨o, e⟩ := st.wlt b wb; rw [d] at e; cases e
    have hzD1 : ¬ Z1 D := fun q => (z1.new D q).elim hzD fun d => by obtain ⟨o, e⟩ := lD; rw [d] at e; cases e
    have hcl1 : ∀ x c, F.cells.lookup x = some c → (∃ o, s1.heap.get? c = some o) ∧ ¬ wr1 c ∧ c ≠ D := fun x c hx => by
      obtain ⟨⟨o, e⟩, h1, h2⟩ := hcl x c hx
      exact ⟨⟨o, e1.keep _ _ h1 e⟩, fun q => (hwr1 c q).elim h1 fun d => (by rw [d] at e; cases e), h2⟩
    have st1 : St G F Z1 W σ s1 := st.step e1 z1 hw hz h0 fun _ y c hy => (hcl y c hy).2.1
    have g1 : GrI Z W (fun b => wr b ∨ b = D) gs s Z1 W s1 := GrI.it (e1.wide (fun b w => .inl (.inl w)) (fun _ h => .inl h)) z1
    have h01 : ∀ b, wr1 b → F.h0.get? b = none := fun b q => by
      rcases hwr1 b q with w | d
      · exact h0 b w
      · cases q : F.h0.get? b with
        | none => rfl
        | some o => rw [st.hk b o q] at d; cases d
    refine ha.run F A Z1 W s1 v _ _ hsc ⟨hown, hmn⟩ ok.1 st1 r1 fun s2 g2 st2 => ?_
    refine ht.run hsc ok st2 fun s3 Z3 e3 z3 => ?_
    have st3' := st2.ext e3 z3
    have st3 := st3'.weak hsub
    have g13 : Gr Z1 W s1 Z3 W s3 := g2.trans (Gr.of e3 z3)
    -- behind the test: to go on from a state s4
    have go : ∀ (s4 : Shared) (Z4 : Addr → Prop) (accs4 : List PV) (vs4 : List Value), Ext0 s3 s4 ∨ True → GrI Z1 W (fun b => wr b ∨ b = D) gs s1 Z4 W s4 → St G F Z4 W σ s4 → Kp G Z1 wr1 gs s1 s4 → s1.gens.size ≤ s4.gens.size → (∀ b, Z1 b → Z4 b) → (∀ b, Z4 b → ¬ wr1 b) → ¬ Z4 D →
        (∀ x c, F.cells.lookup x = some c → ∃ o, s4.heap.get? c = some o) → s4.heap.PlainList D vs4.toArray → Reps Z4 s4.heap accs4 vs4 → accs4.length ≤ accs.length + 1 → accs4 ++ ys = accs ++ (if b then y :: ys else ys) →
        codeAny (model G.prog G.w) A cd R s4 := by
      intro s4 Z4 accs4 vs4 _ g14 st4 kp hgs hz14 hz4 hzD4 hc4 hp4 hr4 hl4 hacc
      refine ih Z4 W Z1 wr1 s4 accs4 vs4 st4 (it1.kp kp hgs) hz14 hz4 hw1 h01 (fun x c hx => ⟨hc4 x c hx, (hcl1 x c hx).2⟩) hwD1 hzD4 hWD hD0 hp4 hr4 (by simp only [List.length_cons] at hlen; omega) fun s5 Z5 ws g5 hzD5 st5 hp5 hr5 => ?_
      refine h s5 Z5 ws ((g1.trans g14 fun b w => .inl w).trans g5 fun b w => w.elim (fun w => (hwr1 b w).imp .inl id) fun e => .inl (.inr e)) hzD5 st5 hp5 ?_
      rw [← hacc]; exact hr5
    have hz3 : ∀ b, Z3 b → ¬ wr1 b := fun b z q => by
      rcases g13.zw b z with z | w | d
      · exact its1.apart b z q
      · exact hw1 b w q
      · obtain ⟨o, e⟩ := its1.live b q; rw [d] at e; cases e
    have hzD3 : ¬ Z3 D := fun z => by
      rcases g13.zw D z with z | w | d
      · exact hzD1 z
      · exact hWD w
      · obtain ⟨k, e⟩ := hp; rw [e1.keep D _ hwD e] at d; cases d
    have kp3 : Kp G Z1 wr1 gs s1 s3 := ⟨st3.bs, fun b o q e => g13.ext.keep b o (fun wb => q.elim (fun z => st1.disj b z wb) (hw1 b wb)) e, fun g hg => by
      have hlt := its1.glt g hg
      obtain ⟨x, hx⟩ : ∃ x, s1.gens[g]? = some x := ⟨_, Array.getElem?_eq_getElem hlt⟩
      rw [hx]; exact g13.ext.gens g x (fun f => f) hx⟩
    have keepD : ∀ o, s.heap.get? D = some o → s3.heap.get? D = some o := fun o e => g13.ext.keep D o hWD (e1.keep D o hwD e)
    have keepZ : ∀ b o, Z b → s.heap.get? b = some o → s3.heap.get? b = some o := fun b o z e => g13.ext.keep b o (st1.disj b (z1.sub b z)) (e1.keep b o (hz b z) e)
    have hc3 : ∀ x c, F.cells.lookup x = some c → ∃ o, s3.heap.get? c = some o := fun x c hx => by
      obtain ⟨⟨o, e⟩, _⟩ := hcl1 x c hx
      by_cases w : W c
      · exact st3.wlt c w
      · exact ⟨o, g13.ext.keep c o w e⟩
    have hp3 : s3.heap.PlainList D vs.toArray := let ⟨k, e⟩ := hp; ⟨k, keepD _ e⟩
    have hr3 : Reps Z3 s3.heap accs vs := hr.mono (fun b z => g13.zs b (z1.sub b z)) keepZ
    cases b with
    | false =>
      rw [if_neg Bool.false_ne_true]
      exact go s3 Z3 accs vs (.inr trivial) (GrI.fr g13) st3 kp3 g13.ext.gsize g13.zs hz3 hzD3 hc3 hp3 hr3 (Nat.le_succ _) (by rw [if_neg Bool.false_ne_true])
    | true =>
      rw [if_pos rfl]
      refine (he rfl).run F A Z3 W s3 _ _ hsc ok st3' fun w s4 Z4 e4 z4 r4 => ?_
      have hp4 : s4.heap.PlainList D vs.toArray := let ⟨k, e⟩ := hp3; ⟨k, e4.keep' _ _ e⟩
      refine wpAny_list_append_plain hp4 (fun h' hp' hs' => ?_) (by rw [List.size_toArray, hr.length, sizeLine_eq]; simp only [List.length_cons] at hlen; omega)
      have e45 : ExtG (fun b => b = D) (fun _ => False) s4 { s4 with heap := h' } := ⟨fun b o nb e => (hs'.2 b nb).trans e, Nat.le_refl _, fun _ _ _ e => e, rfl, fun x => x⟩
      have hzD4 : ¬ Z4 D := fun z => (z4.new D z).elim hzD3 fun d => by obtain ⟨k, e⟩ := hp3; rw [d] at e; cases e
      have hz4 : ∀ b, Z4 b → b ≠ D := fun b z q => hzD4 (q ▸ z)
      have z45 : ZG Z4 s4 Z4 { s4 with heap := h' } := ⟨fun _ z => z, fun _ z => .inl z, fun b z => let ⟨o, e⟩ := z4.lt b z; ⟨o, e45.keep b o (hz4 b z) e⟩⟩
      have st5 : St G F Z4 W σ { s4 with heap := h' } := (st3.ext e4 z4).step e45 z45 (fun b w q => hWD (q ▸ w)) hz4 (fun b q => q ▸ hD0) fun _ x c hx => (hcl x c hx).2.2
      have g14 := g13.trans (Gr.of (W := W) e4 z4)
      have kp4 : Kp G Z1 wr1 gs s1 { s4 with heap := h' } := ⟨st5.bs, fun b o q e => e45.keep b o (fun w => by have w : b = D := w; subst w; exact q.elim hzD1 hwD1) (e4.keep' b o (kp3.keep b o q e)), fun g hg => by
        have hlt := its1.glt g hg
        obtain ⟨x, hx⟩ : ∃ x, s1.gens[g]? = some x := ⟨_, Array.getElem?_eq_getElem hlt⟩
        rw [hx]; exact g14.ext.gens g x (fun f => f) hx⟩
      refine go { s4 with heap := h' } Z4 (accs ++ [y]) (vs ++ [w]) (.inr trivial) ?_ st5 kp4 g14.ext.gsize g14.zs ?_ hzD4 ?_ (by simpa using hp') ?_ (by simp) (by simp)
      · exact (GrI.fr g14).trans (GrI.it (wr := fun b => b = D) (gs := gs) (e45.wide (fun b w => .inl w) (fun _ h => h.elim)) z45) fun b w => .inl (.inr w)
      · intro b z q
        rcases z4.new b z with z | d
        · exact hz3 b z q
        · obtain ⟨o, e⟩ := its1.live b q
          rw [kp3.keep b o (.inr q) e] at d; cases d
      · intro x c hx
        obtain ⟨o, e⟩ := hc3 x c hx
        exact ⟨o, e45.keep c o (hcl x c hx).2.2 (e4.keep' _ _ e)⟩
      · have ra : Reps Z4 h' accs vs := (hr3.ext e4 z4).mono (fun _ z => z) fun b o z e => e45.keep b o (hz4 b z) e
        have rb : Rep Z4 h' y w := r4.mono (fun _ z => z) fun b o z e => e45.keep b o (hz4 b z) e
        exact ra.append ⟨w, [], rfl, rb, rfl⟩
end
end Mine
namespace Mine

section
variable {G : Gc} {n : Nat} {σ τ κ : Loc} {sc : Scope}

/-- the names that a comprehension captures -/
def Caps (sc scope : Scope) (σ κ : Loc) : Prop := ∀ y sl, κ.lookup y = some sl → (∃ pv, sl = .val pv) ∧ σ.lookup y = some sl ∧ (y, NameKind.free) ∈ scope.names ∧ (relab scope sc).names.lookup y = some .cell ∧ y ∉ cellNames scope
/-- the function has cells for them -/
def FreeOk (sc scope : Scope) : Prop := ∀ p ∈ scope.names, p.2 = .free → sc.names.lookup p.1 = some .cell
def FreeIn (σ : Loc) (scope : Scope) : Prop := ∀ p ∈ scope.names, p.2 = .free → ∃ pv, σ.lookup p.1 = some (.val pv)
theorem St.free {F : Fi} {Z W : Addr → Prop} {s : Shared} {scope : Scope} (st : St G F Z W σ s) (hsc : F.sc = sc) (hown : F.own = true ∨ FreeIn σ scope) (hfree : FreeOk sc scope) :
    ∀ p ∈ scope.names, p.2 = .free → ∃ c v, F.cells.lookup p.1 = some c ∧ s.heap.IsCell c v := fun p hp hk => by
  rcases hown with ho | hi
  · obtain ⟨c, v, h1, h2, _⟩ := st.cells p.1 (.inl ho) (by rw [hsc]; exact hfree p hp hk)
    exact ⟨c, v, h1, h2⟩
  · obtain ⟨pv, h⟩ := hi p hp hk
    obtain ⟨v, hv, _⟩ := st.vals _ _ h
    rcases hv with ⟨k, _⟩ | ⟨_, c, hc, hv⟩
    · rw [hsc, hfree p hp hk] at k; cases k
    · exact ⟨c, _, hc, hv⟩

/-! own cells -/
theorem cellsFrom_not : ∀ (names : List (Str × NameKind)) (k : Nat) (acc : List (Str × Addr)) (x : Str), (∀ p ∈ names, p.1 = x → p.2 ≠ .cell) → (cellsFrom k names acc).lookup x = acc.lookup x
  | [], k, acc, x, h => rfl
  | (nm, kd) :: r, k, acc, x, h => by
    unfold cellsFrom
    split
    · rename_i hq
      rw [cellsFrom_not r _ _ x fun p hp => h p (.tail _ hp)]
      have : x ≠ nm := fun e => h (nm, kd) (.head _) e.symm (beq_iff_eq.mp hq)
      exact lookup_cons_ne _ _ this
    · exact cellsFrom_not r _ _ x fun p hp => h p (.tail _ hp)
theorem cellsFrom_cases : ∀ (names : List (Str × NameKind)) (k : Nat) (acc : List (Str × Addr)) (x : Str) (c : Addr), (cellsFrom k names acc).lookup x = some c → k ≤ c ∨ acc.lookup x = some c
  | [], k, acc, x, c, h => .inr h
  | (nm, kd) :: r, k, acc, x, c, h => by
    unfold cellsFrom at h
    split at h
    · rcases cellsFrom_cases r _ _ x c h with q | q
      · exact .inl (Nat.le_of_succ_le q)
      · by_cases e : x = nm
        · subst e; rw [lookup_cons_self] at q; cases q; exact .inl (Nat.le_refl _)
        · rw [lookup_cons_ne _ _ e] at q; exact .inr q
    · exact cellsFrom_cases r _ _ x c h
theorem cellsFrom_uniq : ∀ (names : List (Str × NameKind)) (k : Nat) (acc : List (Str × Addr)) (x y : Str) (c : Addr), (∀ z d, acc.lookup z = some d → d < k) → k ≤ c →
    (cellsFrom k names acc).lookup x = some c → (cellsFrom k names acc).lookup y = some c → x = y
  | [], k, acc, x, y, c, ha, hk, hx, hy => absurd (ha x c hx) (Nat.not_lt_of_le hk)
  | (nm, kd) :: r, k, acc, x, y, c, ha, hk, hx, hy => by
    unfold cellsFrom at hx hy
    split at hx
    · rename_i hq
      rw [if_pos hq] at hy
      have ha' : ∀ z d, List.lookup z ((nm, k) :: acc) = some d → d < k + 1 := fun z d h => by
        by_cases e : z = nm
        · subst e; rw [lookup_cons_self] at h; cases h; exact Nat.lt_succ_self _
        · rw [lookup_cons_ne _ _ e] at h; exact Nat.lt_succ_of_lt (ha z d h)
      rcases Nat.lt_or_ge k c with q | q
      · exact cellsFrom_uniq r (k + 1) _ x y c ha' q hx hy
      · have e : c = k := Nat.le_antisymm q hk
        subst e
        have one : ∀ z, (cellsFrom (c + 1) r ((nm, c) :: acc)).lookup z = some c → z = nm := fun z h => by
          rcases cellsFrom_cases r _ _ z c h with q | q
          · exact absurd q (Nat.not_le_of_lt (Nat.lt_succ_self _))
          · by_cases e : z = nm
            · exact e
            · rw [lookup_cons_ne _ _ e] at q
              exact absurd (ha z c q) (Nat.lt_irrefl _)
        rw [one x hx, one y hy]
    · rename_i hq
      rw [if_neg hq] at hy
      exact cellsFrom_uniq r k acc x y c ha hk hx hy
theorem cellsFrom_mine (lo : Nat) : ∀ (names : List (Str × NameKind)) (h : Heap) (acc : List (Str × Addr)) (x : Str), lo ≤ h.objs.size → ((x, NameKind.cell) ∈ names ∨ ∃ c, acc.lookup x = some c ∧ h.IsCell c none ∧ lo ≤ c) →
    ∃ c, (cellsFrom h.objs.size names acc).lookup x = some c ∧ (pushCells h names).IsCell c none ∧ lo ≤ c
  | [], h, acc, x, hlo, hx => by
    rcases hx with hx | hx
    · cases hx
    · exact hx
  | (nm, kd) :: r, h, acc, x, hlo, hx => by
    unfold cellsFrom pushCells
    split
    · rename_i hq
      have ih := cellsFrom_mine lo r (h.push { cls := .type "cell", data := .cell none }) ((nm, h.objs.size) :: acc) x (by rw [Heap.size_push]; exact Nat.le_succ_of_le hlo)
      rw [Heap.size_push] at ih
      refine ih ?_
      by_cases e : x = nm
      · subst e
        exact .inr ⟨_, lookup_cons_self .., ⟨_, Heap.get?_push_size _ rfl, rfl⟩, hlo⟩
      · rcases hx with hx | ⟨c, h1, h2, h3⟩
        · rcases List.mem_cons.mp hx with q | q
          · cases q; exact absurd rfl e
          · exact .inl q
        · exact .inr ⟨c, by rw [lookup_cons_ne _ _ e]; exact h1, h2.keeps fun b o q => Heap.get?_push_of_some _ q, h3⟩
    · rename_i hq
      refine cellsFrom_mine lo r h acc x hlo ?_
      rcases hx with hx | hx
      · rcases List.mem_cons.mp hx with q | q
        · cases q; exact absurd rfl hq
        · exact .inl q
      · exact .inr hx
theorem mem_cellNames {scope : Scope} {x : Str} : x ∈ cellNames scope ↔ (x, NameKind.cell) ∈ scope.names := by
  unfold cellNames
  rw [List.mem_map]
  constructor
  · rintro ⟨p, hp, rfl⟩
    obtain ⟨h1, h2⟩ := List.mem_filter.mp hp
    obtain ⟨a, b⟩ := p
    have : b = .cell := beq_iff_eq.mp h2
    subst this
    exact h1
  · intro h
    exact ⟨(x, .cell), List.mem_filter.mpr ⟨h, beq_self_eq_true _⟩, rfl⟩
theorem newEnv_comp {M : Model} {A : Around} {E : Value → Shared → Prop} {s : Shared} {scope : Scope} {globals : Addr} {closure : List (Str × Addr)} {qual : Str} {outer : Env} {Q : Env → Shared → Prop}
    (h : Q (newEnv scope s.heap.objs.size globals (cellsFrom (s.heap.objs.size + 1) scope.names closure) qual none .none (some outer) builtinsNs) { s with heap := pushCells (s.heap.push { cls := .type "dict", data := .dict #[] }) scope.names }) :
    wpAny M A (newFunctionEnv scope globals closure [] qual none .none (some outer)) Q E s := by
  simp only [newFunctionEnv, Option.isSome_some, if_true]
  simp only [newEnv] at h
  refine wpAny_bind (wpAny_alloc ?_)
  refine wpAny_bind (wpAny_layCells _ (fun name kind cells => by cases hkc : kind == NameKind.cell <;> simp [hkc]) _ _ _ _ ?_)
  rw [show ({ s with heap := s.heap.push { cls := .type "dict", data := .dict #[] } } : Shared).heap.objs.size = s.heap.objs.size + 1 from Heap.size_push ..]
  refine wpAny_bind ?_
  rw [List.forIn_nil]
  exact wpAny_pure (wpAny_pure h)

structure CompEnd (G : Gc) (F : Fi) (Z W : Addr → Prop) (σ : Loc) (s : Shared) (ys : List PV) (D C : Addr) (s' : Shared) (Z' : Addr → Prop) (ws : List Value) : Prop where
  ext : Ext0 s s'
  zg : ZG Z s Z' s'
  dD : s.heap.get? D = none
  dC : s.heap.get? C = none
  ne : D ≠ C
  zD : ¬ Z' D
  zC : ¬ Z' C
  ns : ∃ m, s'.heap.Ns C m
  pl : s'.heap.PlainList D ws.toArray
  rs : Reps Z' s'.heap ys ws
  bs : Bs G s'

theorem comp_block {elt t iter : Expr} {ifs : List Expr} {scope : Scope} {pos : Pos} {xs ys : List PV} {F : Fi} {A : Around} {Z W : Addr → Prop} {s : Shared} {E E1 : Value → Shared → Prop} {RR : Value → Addr → Result → Shared → Prop}
    (hsc : F.sc = sc) (hown : F.own = true ∨ FreeIn σ scope) (ok : OkA n A) (st : St G F Z W σ s) (h1 : EvI G n sc σ iter xs true) (hlen : xs.length ≤ 1000000) (hc : CompOk G n (cellNames scope) (relab scope sc) κ t ifs elt xs ys) (hcap : Caps sc scope σ κ) (hfree : FreeOk sc scope) (hdot : (relab scope sc).names.lookup (".0" : Str) ≠ none)
    (hkind : scope.kind = .function)
    (hRR : ∀ D C s' Z' ws, CompEnd G F Z W σ s ys D C s' Z' ws → RR (.ref D) C (.ok .next) s') :
    wpAny (model G.prog G.w) A (eval iter F.env) (fun x s1 => wpAny (model G.prog G.w) A (pyIter x) (fun it s2 => wpAny (model G.prog G.w) A (newList []) (fun acc s3 =>
      wpAny (model G.prog G.w) A (newFunctionEnv scope F.env.globals (clGo F.cells scope.names []) [] F.env.qual none .none (some F.env)) (fun cenv s4 =>
        codeAny (model G.prog G.w) A (.compStart (.ListComp elt [⟨t, iter, ifs, 0⟩] scope pos) 0 it acc { cenv with scope := relabel scope F.env }) (RR acc cenv.locals) s4) E s3) E s2) E s1) E s := by
  refine h1.run F A Z W s _ _ hsc ok st fun I s2 Z2 wr gs e2 z2 it hwr hgs => ?_
  have st2 := st.ext e2 z2
  have its := it.its
  refine wpAny_newObj_type (newEnv_comp ?_)
  dsimp only
  generalize hH3 : s2.heap.push { cls := .type "list", dict := none, data := .seq ([] : List Value).toArray } = H3
  have hD3 : H3.get? s2.heap.objs.size = some { cls := .type "list", dict := none, data := .seq ([] : List Value).toArray } := hH3 ▸ Heap.get?_push_size _ rfl
  have k3 : ∀ b o, s2.heap.get? b = some o → H3.get? b = some o := fun b o e => hH3 ▸ Heap.get?_push_of_some _ e
  have hC2 : s2.heap.get? H3.objs.size = none := by
    cases q : s2.heap.get? H3.objs.size with
    | none => rfl
    | some o => exact absurd (Heap.lt_size (k3 _ _ q)) (Nat.lt_irrefl _)
  have hDC : s2.heap.objs.size ≠ H3.objs.size := Nat.ne_of_lt (Heap.lt_size hD3)
  have hgt : ∀ c, H3.objs.size ≤ c → s2.heap.get? c = none := fun c hc => by
    cases q : s2.heap.get? c with
    | none => rfl
    | some o => exact absurd (Heap.lt_size (k3 _ _ q)) (Nat.not_lt_of_le hc)
  generalize hh4 : pushCells (H3.push { cls := .type "dict", data := .dict #[] }) scope.names = h4
  have kp : ∀ b o, H3.get? b = some o → h4.get? b = some o := fun b o e => hh4 ▸ pushCells_keeps _ _ b o (Heap.get?_push_of_some _ e)
  have k4 : ∀ b o, s2.heap.get? b = some o → h4.get? b = some o := fun b o e => kp b o (k3 b o e)
  have hn : h4.Ns H3.objs.size (fun _ => none) := hh4 ▸ (Heap.Ns.new H3 (.type "dict")).keeps (pushCells_keeps _ _)
  have hD4 : h4.get? s2.heap.objs.size = some { cls := .type "list", dict := none, data := .seq ([] : List Value).toArray } := kp _ _ hD3
  let s4 : Shared := { s2 with heap := h4 }
  have e24 : Ext0 s2 s4 := Ext0.heap k4
  have z24 : ZG Z2 s2 Z2 s4 := ZG.same z2.lt e24
  let Fc : Fi := compFi F scope H3.objs.size Z2 s.heap
  have hfr2 := st2.free hsc hown hfree
  have hsz : H3.objs.size + 1 = (H3.push { cls := .type "dict", data := .dict #[] }).objs.size := (Heap.size_push ..).symm
  have accLt : ∀ z d, (clGo F.cells scope.names []).lookup z = some d → d < H3.objs.size + 1 := fun z d h => by
    rcases clGo_get F.cells scope.names [] z d h with ⟨q1, q2⟩ | q
    · obtain ⟨c, v, q3, q4⟩ := hfr2 (z, .free) q2 rfl
      rw [q1] at q3; cases q3
      obtain ⟨o, q5, _⟩ := q4
      exact Nat.lt_succ_of_lt (Heap.lt_size (k3 _ _ q5))
    · simp at q
  have mine : ∀ x, x ∈ cellNames scope → ∃ c, Fc.cells.lookup x = some c ∧ h4.IsCell c none ∧ H3.objs.size + 1 ≤ c := fun x hx => by
    have := cellsFrom_mine (H3.objs.size + 1) scope.names (H3.push { cls := .type "dict", data := .dict #[] }) (clGo F.cells scope.names []) x (by rw [← hsz]; exact Nat.le_refl _) (.inl (mem_cellNames.mp hx))
    rw [← hsz, hh4] at this
    exact this
  let Wc : Addr → Prop := fun b => b = H3.objs.size ∨ (H3.objs.size + 1 ≤ b ∧ ∃ x, Fc.cells.lookup x = some b ∧ x ∈ cellNames scope)
  have wAbs : ∀ b, Wc b → s2.heap.get? b = none := by
    rintro b (rfl | ⟨h, _⟩)
    · exact hC2
    · exact hgt b (Nat.le_of_succ_le h)
  have stc : St G Fc Z2 Wc κ s4 := {
    b0 := st.base
    hk := fun b o e => k4 b o (e2.keep' b o e)
    bare := e24.bare st2.bare
    zlt := z24.lt
    wlt := by
      rintro b (rfl | ⟨_, x, hx, hm⟩)
      · obtain ⟨o, _, _, q, _⟩ := hn; exact ⟨o, q⟩
      · obtain ⟨c, q1, ⟨o, q2, _⟩, _⟩ := mine x hm
        rw [hx] at q1; cases q1
        exact ⟨o, q2⟩
    wn0 := fun b w => Ext0.dead e2 (wAbs b w)
    disj := fun b z w => by obtain ⟨o, q⟩ := z2.lt _ z; rw [wAbs b w] at q; cases q
    z0 := fun b z => .inl z
    z1 := fun b z => z
    LW := .inl rfl
    kind := hkind
    ns := ⟨_, hn⟩
    cells := fun x hx _ => by
      rcases hx with hx | hx
      · cases hx
      · obtain ⟨c, q1, q2, q3⟩ := mine x hx
        exact ⟨c, _, q1, q2, .inr ⟨q3, x, q1, hx⟩⟩
    inj := fun x hx y c q1 q2 => by
      rcases hx with hx | hx
      · cases hx
      · obtain ⟨c', q3, _, q5⟩ := mine x hx
        rw [q1] at q3; cases q3
        exact cellsFrom_uniq scope.names (H3.objs.size + 1) _ x y c accLt q5 q1 q2
    ownd := fun h => by rw [show Fc.sc.names.lookup (".0" : Str) = (relab scope sc).names.lookup (".0" : Str) from by show (relab scope F.sc).names.lookup _ = _; rw [hsc]] at h; exact absurd h hdot
    vals := fun y pv hy => by
      obtain ⟨_, hσ, hm, hrl, hnc⟩ := hcap y _ hy
      obtain ⟨v, hv, hr⟩ := st2.vals y pv hσ
      refine ⟨v, .inr ⟨by show (relab scope F.sc).names.lookup y = _; rw [hsc]; exact hrl, ?_⟩, hr.ext e24 z24⟩
      rcases hv with ⟨k, _⟩ | ⟨k, c, hcl, hcv⟩
      · rw [hsc, hfree (y, .free) hm rfl] at k; cases k
      · refine ⟨c, ?_, hcv.keeps k4⟩
        show (cellsFrom (H3.objs.size + 1) scope.names (clGo F.cells scope.names [])).lookup y = some c
        rw [cellsFrom_not _ _ _ _ (fun p hp e hk => hnc (mem_cellNames.mpr (by obtain ⟨a, b⟩ := p; subst e; subst hk; exact hp)))]
        exact clGo_has F.cells scope.names [] y c hcl (.inl hm) (fun b hb => by simp at hb)
    owns := ⟨fun _ => (0 : Nat), And.intro (fun y l hy => by obtain ⟨⟨pv, h⟩, _⟩ := hcap y _ hy; cases h) (fun y _ l _ hy => by obtain ⟨⟨pv, h⟩, _⟩ := hcap y _ hy; cases h)⟩ }
  have notwr : ∀ b, (s2.heap.get? b = none) → ¬ wr b := fun b d q => by obtain ⟨o, e⟩ := its.live b q; rw [d] at e; cases e
  have it4 : ItAt G n true I gs xs Z2 wr s4 := it.kp ⟨stc.bs, fun b o _ e => k4 b o e, fun _ _ => rfl⟩ (Nat.le_refl _)
  have loop : ∀ s5 : Shared, s5 = s4 → codeAny (model G.prog G.w) A (.compLoop (.ListComp elt [⟨t, iter, ifs, 0⟩] scope pos) 0 (.ref I) (.ref s2.heap.objs.size) Fc.env) (RR (.ref s2.heap.objs.size) H3.objs.size) s5 := by
    rintro s5 rfl
    refine comp_loop (F := Fc) compLoop_at (by show relab scope F.sc = _; rw [hsc]) rfl (fun _ h => h) ok hc Z2 Wc Z2 wr s4 [] [] stc it4 (fun _ z => z) its.apart (fun b w => notwr _ (wAbs b w)) (fun b q => ?_) (fun x c hx => ?_) (notwr _ (none_size _)) (not_live z2.lt (none_size _)) ?_ (Ext0.dead e2 (none_size _))
      ⟨0, hD4⟩ (by simp [Reps]) (by simpa using hlen) fun s' Z' ws g hzD st' hp hr => ?_
    · exact hwr b q
    · have hx' : (cellsFrom (H3.objs.size + 1) scope.names (clGo F.cells scope.names [])).lookup x = some c := hx
      rcases cellsFrom_cases _ _ _ x c hx' with q | q
      · have hm : x ∈ cellNames scope := by
          by_cases hm : x ∈ cellNames scope
          · exact hm
          · rw [cellsFrom_not _ _ _ _ (fun p hp e hk => hm (mem_cellNames.mpr (by obtain ⟨a, b⟩ := p; subst e; subst hk; exact hp)))] at hx'
            exact absurd (accLt x c hx') (Nat.not_lt_of_le q)
        obtain ⟨c', q1, ⟨o, q2, _⟩, _⟩ := mine x hm
        rw [hx] at q1; cases q1
        exact ⟨⟨o, q2⟩, notwr _ (hgt c (Nat.le_of_succ_le q)), fun e => by
          have := Heap.lt_size hD3
          rw [e] at q
          exact Nat.lt_irrefl _ (Nat.lt_of_lt_of_le this (Nat.le_of_succ_le q))⟩
      · rcases clGo_get F.cells scope.names [] x c q with ⟨h1, h2⟩ | h
        · obtain ⟨c', v, h3, ⟨oc, h4, _⟩⟩ := st.free hsc hown hfree (x, .free) h2 rfl
          rw [h1] at h3; cases h3
          refine ⟨⟨oc, k4 _ _ (e2.keep' _ _ h4)⟩, fun q => ?_, fun q => ?_⟩
          · rw [hwr c q] at h4; cases h4
          · rw [q, Ext0.dead e2 (none_size _)] at h4; cases h4
        · simp at h
    · rintro (h | ⟨h, _⟩)
      · exact hDC h
      · have := Heap.lt_size hD3
        exact Nat.lt_irrefl _ (Nat.lt_of_lt_of_le this (Nat.le_of_succ_le h))
    · have abs : ∀ b, (Wc b ∨ (wr b ∨ b = s2.heap.objs.size)) → s.heap.get? b = none := by
        rintro b (w | w | rfl)
        · exact Ext0.dead e2 (wAbs b w)
        · exact hwr b w
        · exact Ext0.dead e2 (none_size _)
      have e4 : Ext0 s s4 := e2.trans' e24
      refine hRR _ _ s' Z' ws ⟨e4.trans g.ext (fun b w => .inr (abs b w)) (fun x hx => .inr (hgs x hx)), ⟨fun b z => g.zs b (z2.sub b z), fun b z => ?_, st'.zlt⟩, Ext0.dead e2 (none_size _), Ext0.dead e2 hC2, hDC, hzD, fun z => st'.disj _ z (.inl rfl), st'.ns, hp, by simpa using hr, st'.bs⟩
      rcases g.zw b z with z | w | w | d
      · exact z2.new b z
      · exact .inr (abs b (.inl w))
      · exact .inr (abs b (.inr w))
      · exact .inr (Ext0.dead e4 d)
  exact codeAny_compStart_list (loop _ rfl) (it4.its.self s4 (Kp.refl stc.bs) A _ _ ok (loop _ rfl))

theorem St.closure {F : Fi} {Z W : Addr → Prop} {s : Shared} {scope : Scope} (st : St G F Z W σ s) (hsc : F.sc = sc) (hown : F.own = true ∨ FreeIn σ scope) (hfree : FreeOk sc scope) : closureFor scope F.env = pure (clGo F.cells scope.names []) :=
  closure_eq (env := F.env) fun p hp hk => by
    obtain ⟨c, _, h, _⟩ := st.free hsc hown hfree p hp hk
    exact ⟨c, h⟩

/-- the comprehension's own namespace is let go -/
theorem CompEnd.gone {F : Fi} {Z W : Addr → Prop} {s s' : Shared} {ys : List PV} {D C : Addr} {Z' : Addr → Prop} {ws : List Value} (x : CompEnd G F Z W σ s ys D C s' Z' ws) {h' : Heap} (hs : Heap.SameBut C s'.heap h') :
    Ext0 s { s' with heap := h' } ∧ ZG Z s Z' { s' with heap := h' } ∧ h'.PlainList D ws.toArray ∧ Reps Z' h' ys ws := by
  have e : ExtG (fun b => b = C) (fun _ => False) s' { s' with heap := h' } := ⟨fun b o nb e => (hs.2 b nb).trans e, Nat.le_refl _, fun _ _ _ e => e, rfl, fun x => x⟩
  have hz : ∀ b, Z' b → b ≠ C := fun b z q => x.zC (q ▸ z)
  refine ⟨x.ext.trans e (fun b w => .inr (by have w : b = C := w; rw [w]; exact x.dC)) (fun _ h => h.elim), ⟨x.zg.sub, x.zg.new, fun b z => let ⟨o, q⟩ := x.zg.lt b z; ⟨o, e.keep b o (hz b z) q⟩⟩, ?_, x.rs.mono (fun _ z => z) fun b o z q => e.keep b o (hz b z) q⟩
  obtain ⟨k, q⟩ := x.pl
  exact ⟨k, e.keep D _ x.ne q⟩

end
end Mine
namespace Mine

/-- one table says no more than another -/
def subL : Loc → Loc → Prop
  | [], _ => True
  | (k, v) :: r, τ => τ.lookup k = some v ∧ subL r τ
theorem subL.out : ∀ {a b : Loc}, subL a b → ∀ y sl, a.lookup y = some sl → b.lookup y = some sl
  | [], _, _, y, sl, h => by simp at h
  | (k, v) :: r, b, ⟨h1, h2⟩, y, sl, h => by
    by_cases q : y = k
    · subst q; rw [lookup_cons_self] at h; cases h; exact h1
    · rw [lookup_cons_ne _ _ q] at h; exact h2.out y sl h

section
variable {G : Gc} {n : Nat} {σ τ τ1 : Loc} {sc : Scope} {o : Out}

theorem Ext0.extBut {s : Shared} {h' : Heap} (he : Heap.ExtBut s.heap.objs.size s.heap h') : Ext0 s { s with heap := h' } :=
  Ext0.heap (tk := s.toks) fun b o e => he b o (Nat.ne_of_lt (Heap.lt_size e)) e

theorem Rep.tupe {Z : Addr → Prop} {h : Heap} {xs : List PV} {v : Value} (r : Rep Z h (.tup xs) v) : ∃ a vs, v = .ref a ∧ Z a ∧ h.IsTuple a vs.toArray ∧ Reps Z h xs vs := by
  simpa only [Rep] using r

/-- targets in a row -/
structure AsL (G : Gc) (own : Option (List Str)) (sc : Scope) (σ : Loc) (ts : List Expr) (xs : List PV) (τ : Loc) : Prop where
  run : ∀ (F : Fi) (A : Around) (Z W : Addr → Prop) (s : Shared) (vs : List Value) (Q : Unit → Shared → Prop) (E : Value → Shared → Prop), F.sc = sc → F.Is own → A.handled = none → St G F Z W σ s → Reps Z s.heap xs vs →
    (∀ s', Gr Z W s Z W s' → St G F Z W τ s' → Q () s') → wpAny (model G.prog G.w) A (assignInOrder (ts.map fun t => assign t F.env) vs) Q E s
theorem AsL.nil {own : Option (List Str)} : AsL G own sc σ [] [] σ := by
  refine ⟨fun F A Z W s vs Q E _ _ _ st r h => ?_⟩
  simp only [Reps] at r
  subst r
  exact assignInOrder_nil (h s (Gr.refl ..) st)
theorem St.repsKeep {F : Fi} {Z W : Addr → Prop} {s s' : Shared} {xs : List PV} {vs : List Value} (st : St G F Z W σ s) (g : Gr Z W s Z W s') (r : Reps Z s.heap xs vs) : Reps Z s'.heap xs vs :=
  r.mono (fun _ z => z) fun b o z e => g.ext.keep b o (st.disj b z) e
theorem AsL.cons {own : Option (List Str)} {t : Expr} {ts : List Expr} {x : PV} {xs : List PV} (h1 : AsV G own sc σ t x τ1) (h2 : AsL G own sc τ1 ts xs τ) : AsL G own sc σ (t :: ts) (x :: xs) τ := by
  refine ⟨fun F A Z W s vs Q E hsc ho hh st r h => ?_⟩
  simp only [Reps] at r
  obtain ⟨v, ws, rfl, r1, r2⟩ := r
  refine assignInOrder_cons (h1.run F A Z W s v _ _ hsc ho hh st r1 fun s1 g1 st1 => ?_)
  exact h2.run F A Z W s1 ws _ _ hsc ho hh st1 (st.repsKeep g1 r2) fun s2 g2 st2 => h s2 (g1.trans g2) st2
theorem AsV.tup {own : Option (List Str)} {ts : List Expr} {xs : List PV} {k pos} (h1 : AsL G own sc σ ts xs τ) (hl : ts.length = xs.length) (he : ∀ env, (assignEach ts env) = ts.map fun t => (false, assign t env)) :
    AsV G own sc σ (.Tuple ts k pos) (.tup xs) τ := by
  refine ⟨fun F A Z W s v Q E hsc ho hh st r h => ?_⟩
  obtain ⟨a, vs, rfl, za, ht, rs⟩ := r.tupe
  refine wpAny_assign_Tuple hh ht (by rw [he, List.length_map, hl, List.size_toArray, rs.length]) (by rw [he]; simp) fun h' hb => ?_
  have e1 := Ext0.extBut hb
  have z1 := ZG.same st.zlt e1
  have ee : (assignEach ts F.env).map (·.2) = ts.map fun t => assign t F.env := by rw [he]; simp
  rw [ee]
  exact h1.run F A Z W { s with heap := h' } vs _ _ hsc ho hh (st.ext e1 z1) (rs.ext e1 z1) fun s2 g2 st2 => h s2 ((Gr.of e1 z1).trans g2) st2

/-- two names from a pair that is written out: the second first -/
theorem Ex1.assignSw {e : Expr} {ts : List Expr} {x y : PV} {a b : Str} {k p pos} (h1 : Ev G n sc σ e (.tup [x, y])) (ha : sc.names.lookup a = some .local ∨ sc.names.lookup a = some .cell) (hb : sc.names.lookup b = some .local ∨ sc.names.lookup b = some .cell)
    (hs : ∀ env, swapsWithSole [.Tuple ts k p] e pos.line env = pure false) (hw : ∀ F : Fi, F.sc = sc → swappedStores [.Tuple ts k p] e F.env = pure (some [a, b])) :
    Ex1 G n sc σ (.Assign [.Tuple ts k p] e pos) (.next ((a, .val x) :: (b, .val y) :: σ)) := by
  refine ⟨fun F A Z W s Q E hsc ho ok st h => ?_⟩
  refine Assign_Tuple_swapped (h1.run F A Z W s _ _ hsc ok st fun v s1 Z1 e1 z1 r1 => ?_) (hs _) (hw F hsc)
  obtain ⟨ad, vs, rfl, za, ht, rs⟩ := r1.tupe
  simp only [Reps] at rs
  obtain ⟨v1, ws, rfl, r1, v2, us, rfl, r2, rfl⟩ := rs
  refine wpAny_unpackItems_tuple (items := [v1, v2].toArray) ok.1 ht fun h' hb' => ?_
  have e2 := Ext0.extBut hb'
  have z2 := ZG.same z1.lt e2
  have e12 := e1.trans' e2
  have z12 := z1.trans z2 e1
  have st2 := st.ext e12 z12
  refine assignInOrder_cons (bindName_ (st2.put ho (by rw [hsc]; exact hb) (r2.ext e2 z2) fun s3 g3 st3 => ?_))
  have r1' : Rep Z1 s3.heap x v1 := (r1.ext e2 z2).mono (fun _ z => z) fun b o z e => g3.ext.keep b o (st2.disj b z) e
  refine assignInOrder_cons (bindName_ (st3.put ho (by rw [hsc]; exact ha) r1' fun s4 g4 st4 => ?_))
  exact assignInOrder_nil (h _ s4 Z1 W ((Gr.of e12 z12).trans (g3.trans g4)) ⟨rfl, st4⟩)

/-! in place -/
theorem InV.addI {a b : Int} : InV G n .Add (.int a) (.int b) (.int (a + b)) := by
  intro A Z s v w Q E ok zl ra rb h
  simp only [Rep] at ra rb
  obtain ⟨t, rfl⟩ := ra
  obtain ⟨u, rfl⟩ := rb
  exact PySem.P.iadd_int (finT h zl (by simp [Rep]))
theorem InV.subI {a b : Int} : InV G n .Sub (.int a) (.int b) (.int (a - b)) := by
  intro A Z s v w Q E ok zl ra rb h
  simp only [Rep] at ra rb
  obtain ⟨t, rfl⟩ := ra
  obtain ⟨u, rfl⟩ := rb
  exact PySem.P.isub_int (finT h zl (by simp [Rep]))
theorem InV.addS {a b : Tx} (hl : a.length + b.length ≤ 1000000) : InV G n .Add (.str a) (.str b) (.str (a ++ b)) := by
  intro A Z s v w Q E ok zl ra rb h
  simp only [Rep] at ra rb
  obtain ⟨t, rfl⟩ := ra
  obtain ⟨u, rfl⟩ := rb
  exact PySem.P.iadd_str (Mine.addS (A := A) (n := n) hl zl h)

/-! while -/
structure ExW (G : Gc) (n : Nat) (sc : Scope) (σ : Loc) (test : Expr) (body orelse : List Stmt) (o : Out) : Prop where
  run : ∀ (F : Fi) (A : Around) (Z W : Addr → Prop) (s : Shared) (R : Result → Shared → Prop), F.sc = sc → F.own = true → OkA n A → St G F Z W σ s →
    (∀ fl s' Z' W', Gr Z W s Z' W' s' → OutAt G F Z' W' o fl s' → R (.ok fl) s') → codeAny (model G.prog G.w) A (.whileLoop test body orelse F.env) R s
theorem whileTurn_at {A : Around} {env : Env} {test : Expr} {body orelse : List Stmt} {R : Result → Shared → Prop} {s : Shared}
    (h : wpAny (model G.prog G.w) A (isTrue test env (eval test env)) (fun b s₂ =>
        if b = true then wpAny (model G.prog G.w) A (execs body env) (fun f s₃ => match f with
            | .next | .cont => codeAny (model G.prog G.w) A (.whileLoop test body orelse env) R s₃
            | .brk => R (.ok .next) s₃
            | .ret v => R (.ok (.ret v)) s₃) (notedBy (model G.prog G.w) A env fun e s' => R (.error e) s') s₂
        else wpAny (model G.prog G.w) A (execs orelse env) (fun f s₃ => R (.ok f) s₃) (notedBy (model G.prog G.w) A env fun e s' => R (.error e) s') s₂)
        (notedBy (model G.prog G.w) A env fun e s' => R (.error e) s') s) : codeAny (model G.prog G.w) A (.whileLoop test body orelse env) R s := by
  refine codeAny_of_tree ?_
  rw [Around.under_of_weight (c := .whileLoop test body orelse env) rfl rfl]
  show wpAny _ A ((whileTurn test body orelse env).onRaise (fun x => do noteFrame x env; theTreesLotGoes x)) _ _ s
  refine wpAny_noted ?_
  simp only [whileTurn]
  refine wpAny_bind (wpAny_mono h (fun b s₂ h₂ => ?_) fun _ _ h' => h')
  cases b with
  | false =>
    simp only [Bool.false_eq_true, if_false] at h₂ ⊢
    exact wpAny_bind (wpAny_mono h₂ (fun f s₃ h₃ => wpAny_pure h₃) fun _ _ h' => h')
  | true =>
    simp only [if_true] at h₂ ⊢
    refine wpAny_bind (wpAny_mono h₂ (fun f s₃ h₃ => ?_) fun _ _ h' => h')
    cases f with
    | next => exact wpAny_pure ⟨rfl, h₃⟩
    | cont => exact wpAny_pure ⟨rfl, h₃⟩
    | brk => exact wpAny_pure h₃
    | ret v => exact wpAny_pure h₃
theorem ExW.stop {test : Expr} {body orelse : List Stmt} (h1 : EvT G n sc σ test false) (h2 : Ex G n sc σ orelse o) : ExW G n sc σ test body orelse o := by
  refine ⟨fun F A Z W s R hsc ho ok st h => ?_⟩
  refine whileTurn_at (h1.run F A Z W s _ _ hsc ok st fun s1 Z1 e1 z1 => ?_)
  rw [if_neg Bool.false_ne_true]
  exact h2.run F A Z1 W s1 _ _ hsc ho ok (st.ext e1 z1) fun fl s2 Z2 W2 g2 o2 => h fl s2 Z2 W2 ((Gr.of e1 z1).trans g2) o2
theorem ExW.turn {test : Expr} {body orelse : List Stmt} {o1 : Out} (h1 : EvT G n sc σ test true) (hb : Ex G n sc σ body o1) (hn : ∀ τ', o1 = .next τ' → ExW G n sc τ' test body orelse o) (hc : ∀ τ', o1 = .cont τ' → ExW G n sc τ' test body orelse o)
    (hk : ∀ τ', o1 = .brk τ' → o = .next τ') (hr : ∀ p, o1 = .ret p → o = .ret p) : ExW G n sc σ test body orelse o := by
  refine ⟨fun F A Z W s R hsc ho ok st h => ?_⟩
  refine whileTurn_at (h1.run F A Z W s _ _ hsc ok st fun s1 Z1 e1 z1 => ?_)
  rw [if_pos rfl]
  refine hb.run F A Z1 W s1 _ _ hsc ho ok (st.ext e1 z1) fun fl s2 Z2 W2 g2 o2 => ?_
  have g := (Gr.of (W := W) e1 z1).trans g2
  cases o1 with
  | next τ' => obtain ⟨rfl, st3⟩ := o2; exact (hn τ' rfl).run F A Z2 W2 s2 R hsc ho ok st3 fun fl s3 Z3 W3 g3 o3 => h fl s3 Z3 W3 (g.trans g3) o3
  | cont τ' => obtain ⟨rfl, st3⟩ := o2; exact (hc τ' rfl).run F A Z2 W2 s2 R hsc ho ok st3 fun fl s3 Z3 W3 g3 o3 => h fl s3 Z3 W3 (g.trans g3) o3
  | brk τ' =>
    obtain ⟨rfl, st3⟩ := o2
    have := hk τ' rfl
    subst this
    exact h _ s2 Z2 W2 g ⟨rfl, st3⟩
  | ret p =>
    obtain ⟨v', rfl, r3, st3⟩ := o2
    have := hr p rfl
    subst this
    exact h _ s2 Z2 W2 g ⟨v', rfl, r3, st3⟩
theorem ExW.next {test : Expr} {body orelse : List Stmt} (h1 : EvT G n sc σ test true) (hb : Ex G n sc σ body (.next τ)) (h : ExW G n sc τ test body orelse o) : ExW G n sc σ test body orelse o :=
  ExW.turn h1 hb (fun _ e => by cases e; exact h) (fun _ e => by cases e) (fun _ e => by cases e) (fun _ e => by cases e)
theorem ExW.weak {test : Expr} {body orelse : List Stmt} (h1 : ExW G n sc τ test body orelse o) (h : subL τ σ) : ExW G n sc σ test body orelse o :=
  ⟨fun F A Z W s R hsc ho ok st => h1.run F A Z W s R hsc ho ok (st.weak h.out)⟩
theorem Ex1.while_ {test : Expr} {body orelse : List Stmt} {pos} (h : ExW G n sc σ test body orelse o) : Ex1 G n sc σ (.While test body orelse pos) o := by
  refine ⟨fun F A Z W s Q E hsc ho ok st k => ?_⟩
  exact wpAny_While (h.run F A Z W s _ hsc ho ok st k)

/-! a list that the frame holds alone -/
theorem VarAt.inj {F : Fi} {h : Heap} {x : Str} {v w : Value} (a : VarAt F h x v) (b : VarAt F h x w) : v = w := by
  rcases a with ⟨k, m, hn, hm⟩ | ⟨k, c, hc, oc, h2, h3⟩ <;> rcases b with ⟨k', m', hn', hm'⟩ | ⟨k', c', hc', oc', h2', h3'⟩
  · rw [ns_same hn hn', hm'] at hm; cases hm; rfl
  · rw [k] at k'; cases k'
  · rw [k] at k'; cases k'
  · rw [hc] at hc'; cases hc'
    rw [h2] at h2'; cases h2'
    rw [h3] at h3'; cases h3'; rfl
theorem VarAt.but {F : Fi} {Z W : Addr → Prop} {s : Shared} {h' : Heap} {a : Addr} {vs : Array Value} {y : Str} {v : Value} (st : St G F Z W σ s) (hp : s.heap.PlainList a vs) (hs : Heap.SameBut a s.heap h') (r : VarAt F s.heap y v) : VarAt F h' y v := by
  rcases r with ⟨k, m, hn, hm⟩ | ⟨k, c, hc, hv⟩
  · exact .inl ⟨k, m, hn.sameBut hs (Ne.symm (list_ne hn hp)), hm⟩
  · have := list_ne_cell hv hp
    obtain ⟨oc, h2, h3⟩ := hv
    exact .inr ⟨k, c, hc, oc, (hs.2 c (Ne.symm this)).trans h2, h3⟩
theorem St.ownUpd {F : Fi} {Z W : Addr → Prop} {s : Shared} {x : Str} {xs : List PV} (st : St G F Z W σ s) (hx : σ.lookup x = some (.own xs)) :
    ∃ a vs, W a ∧ VarAt F s.heap x (.ref a) ∧ s.heap.PlainList a vs.toArray ∧ Reps Z s.heap xs vs ∧
      ∀ (h' : Heap) (ws : List Value) (ys : List PV) (tk : Nat), h'.PlainList a ws.toArray → Heap.SameBut a s.heap h' → Reps Z s.heap ys ws → Gr Z W s Z W { s with heap := h', toks := tk } ∧ St G F Z W ((x, .own ys) :: σ) { s with heap := h', toks := tk } := by
  obtain ⟨ad, h1, h2⟩ := st.owns
  obtain ⟨wa, va, vs, hp, hr⟩ := h1 x xs hx
  refine ⟨ad x, vs, wa, va, hp, hr, fun h' ws ys tk hp' hs hr' => ?_⟩
  have live : ∀ b o, s.heap.get? b = some o → ∃ o', h'.get? b = some o' := fun b o e => by
    by_cases q : b = ad x
    · obtain ⟨k, e'⟩ := hp'; exact ⟨_, q ▸ e'⟩
    · exact ⟨o, (hs.2 b q).trans e⟩
  have nw : ∀ b, ¬ W b → b ≠ ad x := fun b nb e => nb (e ▸ wa)
  have g : Gr Z W s Z W { s with heap := h', toks := tk } := ⟨⟨fun b o nb e => (hs.2 b (nw b nb)).trans e, Nat.le_refl _, fun _ _ _ e => e, rfl, fun x => x⟩, fun _ z => z, fun _ z => .inl z, fun _ w => .inl w⟩
  have zk : ∀ b o, Z b → s.heap.get? b = some o → h'.get? b = some o := fun b o z e => g.ext.keep b o (st.disj b z) e
  obtain ⟨m, hm⟩ := st.ns
  refine ⟨g, {
    b0 := st.b0
    hk := fun b o e => (hs.2 b (fun q => by have := st.wn0 _ wa; rw [← q, e] at this; cases this)).trans (st.hk b o e)
    bare := st.bare
    zlt := fun b z => let ⟨o, e⟩ := st.zlt b z; live b o e
    wlt := fun b w => let ⟨o, e⟩ := st.wlt b w; live b o e
    wn0 := st.wn0
    disj := st.disj
    z0 := st.z0
    z1 := st.z1
    LW := st.LW
    kind := st.kind
    ns := ⟨m, hm.sameBut hs (Ne.symm (list_ne hm hp))⟩
    cells := fun y ho hy => by
      obtain ⟨c, v, q1, q2, q3⟩ := st.cells y ho hy
      have := list_ne_cell q2 hp
      obtain ⟨oc, h2, h3⟩ := q2
      exact ⟨c, v, q1, ⟨oc, (hs.2 c (Ne.symm this)).trans h2, h3⟩, q3⟩
    inj := st.inj
    ownd := st.ownd
    vals := fun y p hy => by
      by_cases q : y = x
      · subst q; rw [lookup_cons_self] at hy; cases hy
      · rw [lookup_cons_ne _ _ q] at hy
        obtain ⟨w, q1, q2⟩ := st.vals y p hy
        exact ⟨w, q1.but st hp hs, q2.mono (fun _ z => z) zk⟩
    owns := ?_ }⟩
  have look : ∀ y ys', List.lookup y ((x, Slot.own ys) :: σ) = some (.own ys') → y = x ∧ ys' = ys ∨ y ≠ x ∧ σ.lookup y = some (.own ys') := fun y ys' hy => by
    by_cases q : y = x
    · subst q; rw [lookup_cons_self] at hy; cases hy; exact .inl ⟨rfl, rfl⟩
    · rw [lookup_cons_ne _ _ q] at hy; exact .inr ⟨q, hy⟩
  have look' : ∀ y ys', List.lookup y ((x, Slot.own ys) :: σ) = some (.own ys') → ∃ zs, σ.lookup y = some (.own zs) := fun y ys' hy => by
    rcases look y ys' hy with ⟨rfl, _⟩ | ⟨_, h⟩
    · exact ⟨_, hx⟩
    · exact ⟨_, h⟩
  refine ⟨ad, fun y ys' hy => ?_, fun y z ys' zs' hy hz hyz => ?_⟩
  · rcases look y ys' hy with ⟨rfl, rfl⟩ | ⟨q, hy'⟩
    · exact ⟨wa, va.but st hp hs, ws, hp', hr'.mono (fun _ z => z) zk⟩
    · obtain ⟨a1, a2, us, ⟨k, a3⟩, a4⟩ := h1 y ys' hy'
      exact ⟨a1, a2.but st hp hs, us, ⟨k, (hs.2 _ (h2 y x ys' xs hy' hx q)).trans a3⟩, a4.mono (fun _ z => z) zk⟩
  · obtain ⟨_, hy'⟩ := look' y ys' hy
    obtain ⟨_, hz'⟩ := look' z zs' hz
    exact h2 y z _ _ hy' hz' hyz

theorem St.load {F : Fi} {Z W : Addr → Prop} {s : Shared} {x : Str} {v : Value} {p : Pos} {A : Around} {Q : Value → Shared → Prop} {E : Value → Shared → Prop} (st : St G F Z W σ s) (hv : VarAt F s.heap x v) (hd : (x == ("__debug__" : Str)) = false) (h : Q v s) :
    wpAny (model G.prog G.w) A (eval (.Name x p) F.env) Q E s := by
  rcases hv with ⟨k, m, hn, hm⟩ | ⟨k, c, hc, hv⟩
  · exact wpAny_Name (wpAny_loadName_local (env := F.env) st.kind k hn hm h) hd
  · exact wpAny_Name (wpAny_loadName_cell (env := F.env) st.kind k hc hv h) hd

theorem plainL {h : Heap} {a : Addr} {vs : Array Value} (hp : h.PlainList a vs) : PlainL h a vs := by
  obtain ⟨k, e⟩ := hp
  exact ⟨_, k, e, rfl, rfl, rfl⟩

theorem St.inter {F : Fi} {Z W : Addr → Prop} {s : Shared} (st : St G F Z W σ s) : interactive F.env = false := by
  unfold interactive
  rw [show F.env.scope.kind = .function from st.kind]
  rfl
/-- x.append(e) -/
theorem Ex1.append {x : Str} {e : Expr} {xs : List PV} {pv : PV} {p ap cp pos : Pos} (hx : σ.lookup x = some (.own xs)) (h1 : Ev G n sc σ e pv) (hd : (x == ("__debug__" : Str)) = false) (hlen : xs.length < 1000000)
    (hs : ∀ env, swapsWith (.Call (.Attribute (.Name x p) "append" ap) [e] [] cp) none pos.line env = pure false) 
    (hbase : ∀ F : Fi, F.sc = sc → attributeBase (.Name x p) "append" F.env (eval (.Name x p) F.env) = eval (.Name x p) F.env)
    (hfew : ∀ env, ((backTo cp (starEach [e] env)).all (fun x => !x.1) && (backToKw cp (keywordEach [] env)).all (fun x => x.1.isSome)
      && decide (([e] : List Expr).length + ([] : List Keyword).length + (if ([] : List Keyword).isEmpty then 0 else 1) < 30)) = true)
    (hline : (ap.endLine == cp.line) = true) (htrees : ∀ env, backTo cp (starEach [e] env) = [(false, eval e env)]) :
    Ex1 G n sc σ (.Expr (.Call (.Attribute (.Name x p) "append" ap) [e] [] cp) pos) (.next ((x, .own (xs ++ [pv])) :: σ)) := by
  refine ⟨fun F A Z W s Q E hsc ho ok st h => ?_⟩
  refine wpAny_Expr_any (wpAny_Call_append (hbase F hsc) (hfew _) hline (htrees _) ?_) st.inter (hs _)
  obtain ⟨a, vs, wa, va, hp, hr, _⟩ := st.ownUpd hx
  refine st.load va hd ⟨a, vs.toArray, rfl, plainL hp, ?_⟩
  refine h1.run F A Z W s _ _ hsc ok st fun y s1 Z1 e1 z1 r1 => ?_
  have st1 := st.ext e1 z1
  obtain ⟨a1, vs1, wa1, va1, hp1, hr1, upd⟩ := st1.ownUpd hx
  have ea : Value.ref a = .ref a1 := (va.mono e1.keep').inj va1
  cases ea
  refine wpAny_list_append_plain hp1 (fun h' hp' hs' => ?_) (by rw [List.size_toArray, hr1.length, sizeLine_eq]; omega)
  obtain ⟨g2, st2⟩ := upd h' (vs1 ++ [y]) (xs ++ [pv]) s1.toks (by simpa using hp') hs' (hr1.append ⟨y, [], rfl, r1, rfl⟩)
  exact h _ _ Z1 W ((Gr.of e1 z1).trans g2) ⟨rfl, st2⟩

def delAt (l : List PV) (i : Int) : List PV := match seqIndex? i l.length with
  | some k => l.eraseIdx k
  | none => l
theorem Reps.erase {Z : Addr → Prop} {h : Heap} : ∀ (k : Nat) {xs : List PV} {vs : List Value}, Reps Z h xs vs → Reps Z h (xs.eraseIdx k) (vs.eraseIdx k)
  | k, [], vs, r => by simp only [Reps] at r; subst r; simp [Reps]
  | 0, x :: xs, vs, r => by
    simp only [Reps] at r
    obtain ⟨v, us, e, r1, r2⟩ := r
    subst e
    exact r2
  | k + 1, x :: xs, vs, r => by
    simp only [Reps] at r
    obtain ⟨v, us, e, r1, r2⟩ := r
    subst e
    exact ⟨v, us.eraseIdx k, rfl, r1, Reps.erase k r2⟩
/-- del x[i] -/
theorem Ex1.delItem {x : Str} {e : Expr} {xs : List PV} {i : Int} {k : Nat} {p sp pos : Pos} (hx : σ.lookup x = some (.own xs)) (h1 : Ev G n sc σ e (.int i)) (hd : (x == ("__debug__" : Str)) = false) (hlen : xs.length ≤ 1000000) (hk : seqIndex? i xs.length = some k) :
    Ex1 G n sc σ (.Delete [.Subscript (.Name x p) e sp] pos) (.next ((x, .own (xs.eraseIdx k)) :: σ)) := by
  refine ⟨fun F A Z W s Q E hsc ho ok st h => ?_⟩
  refine wpAny_Delete (wpAny_deleteEach_cons (wpAny_delete_Subscript ?_))
  obtain ⟨a, vs, wa, va, hp, hr, _⟩ := st.ownUpd hx
  refine st.load va hd ?_
  refine h1.run F A Z W s _ _ hsc ok st fun y s1 Z1 e1 z1 r1 => ?_
  simp only [Rep] at r1
  obtain ⟨t, rfl⟩ := r1
  have st1 := st.ext e1 z1
  obtain ⟨a1, vs1, wa1, va1, hp1, hr1, upd⟩ := st1.ownUpd hx
  have ea : Value.ref a = .ref a1 := (va.mono e1.keep').inj va1
  cases ea
  have hb := seqIndex_spec hk
  refine wpAny_delItem_plain hp1 (k := k) ?_ (by rw [List.size_toArray, hr1.length]; exact hk) (fun h' hp' hs' => ?_) (by rw [List.size_toArray, hr1.length, sizeLine_eq]; omega)
  · unfold Builtin.List.listFitsIndex
    first
      | (simp only [Bool.not_eq_true', Bool.or_eq_false_iff, Bool.and_eq_true, decide_eq_true_eq, decide_eq_false_iff_not]; omega)
      | (simp; omega)
  · obtain ⟨g2, st2⟩ := upd h' (vs1.eraseIdx k) (xs.eraseIdx k) s1.toks (by simpa using hp') hs' (hr1.erase k)
    exact wpAny_deleteEach_nil (h _ _ Z1 W ((Gr.of e1 z1).trans g2) ⟨rfl, st2⟩)
end
end Mine
namespace Mine

section
variable {G : Gc} {n : Nat} {σ τ κ : Loc} {sc : Scope} {o : Out}

theorem Ev.nm {x : Str} {pv : PV} {pos} (hx : σ.lookup x = some (.val pv)) (hd : (x == ("__debug__" : Str)) = false := by decide) : Ev G n sc σ (.Name x pos) pv := Ev.name hx hd

theorem Rep.ofPl {Z : Addr → Prop} {h : Heap} {xs : List PV} {v : Value} (r : Rep Z h (.pl xs) v) : Rep Z h (.list xs) v := by
  simp only [Rep] at r ⊢
  obtain ⟨a, vs, e, za, hp, rs⟩ := r
  exact ⟨a, vs, e, za, hp.isList, rs⟩
theorem Ev.ofPl {e : Expr} {xs : List PV} (h1 : Ev G n sc σ e (.pl xs)) : Ev G n sc σ e (.list xs) :=
  ⟨fun F A Z W s Q E hsc ok st h => h1.run F A Z W s Q E hsc ok st fun v s' Z' e' z' r' => h v s' Z' e' z' r'.ofPl⟩
theorem Ev.compP {elt t iter : Expr} {ifs : List Expr} {scope : Scope} {pos : Pos} {xs ys : List PV}
    (h1 : EvI G n sc σ iter xs true) (hlen : xs.length ≤ 1000000) (hc : CompOk G n (cellNames scope) (relab scope sc) κ t ifs elt xs ys) (hcap : Caps sc scope σ κ) (hfree : FreeOk sc scope) (hdot : (relab scope sc).names.lookup (".0" : Str) ≠ none) (hf : sc.names.lookup (".0" : Str) = none ∨ FreeIn σ scope)
    (hkind : scope.kind = .function) (hnames : ∀ y ∈ scope.names, y.2 = .local → scope.names.lookup y.1 = some .local) (hs : ∀ env x, foldedSetIterable iter env x = pure x) :
    Ev G n sc σ (.ListComp elt [⟨t, iter, ifs, 0⟩] scope pos) (.pl ys) := by
  refine ⟨fun F A Z W s Q E hsc ok st h => ?_⟩
  have hown : F.own = true ∨ FreeIn σ scope := hf.imp (fun hf => st.ownd (by rw [hsc]; exact hf)) id
  rw [eval_ListComp]
  refine wpAny_comprehension_free (use := none) rfl (hs _) (st.closure hsc hown hfree) hkind hnames (comp_block (pos := pos) (E1 := E) hsc hown ok st h1 hlen hc hcap hfree hdot hkind (RR := fun acc C => compPost (model G.prog G.w) A E none Q acc C) fun D C s' Z' ws ce => ?_)
  obtain ⟨m, hm⟩ := ce.ns
  refine ⟨m, hm, fun h' hs' => ?_⟩
  obtain ⟨q1, q2, q3, q4⟩ := ce.gone hs'
  obtain ⟨k, q3'⟩ := q3
  refine h _ _ (fun b => Z' b ∨ b = D) q1 ⟨fun b z => .inl (q2.sub b z), fun b z => z.elim (q2.new b) fun e => .inr (e ▸ ce.dD), fun b z => z.elim (q2.lt b) fun e => ⟨_, e ▸ q3'⟩⟩ ?_
  simp only [Rep]
  exact ⟨D, ws, rfl, .inr rfl, ⟨k, q3'⟩, q4.mono (fun _ z => .inl z) fun _ _ _ e => e⟩

theorem Ev.comp {elt t iter : Expr} {ifs : List Expr} {scope : Scope} {pos : Pos} {xs ys : List PV}
    (h1 : EvI G n sc σ iter xs true) (hlen : xs.length ≤ 1000000) (hc : CompOk G n (cellNames scope) (relab scope sc) κ t ifs elt xs ys) (hcap : Caps sc scope σ κ) (hfree : FreeOk sc scope) (hdot : (relab scope sc).names.lookup (".0" : Str) ≠ none) (hf : sc.names.lookup (".0" : Str) = none ∨ FreeIn σ scope)
    (hkind : scope.kind = .function) (hnames : ∀ y ∈ scope.names, y.2 = .local → scope.names.lookup y.1 = some .local) (hs : ∀ env x, foldedSetIterable iter env x = pure x) :
    Ev G n sc σ (.ListComp elt [⟨t, iter, ifs, 0⟩] scope pos) (.list ys) :=
  Ev.ofPl (Ev.compP h1 hlen hc hcap hfree hdot hf hkind hnames hs)

theorem swaps_comp {elt t iter : Expr} {ifs : List Expr} {scope : Scope} {cp p : Pos} {x : Str} {line : Nat} {env : Env} : ∃ b : Bool, swapsWith (.ListComp elt [⟨t, iter, ifs, 0⟩] scope cp) (some (.Name x p)) line env = pure b := ⟨_, rfl⟩

theorem Ex1.assignCompP {x : Str} {elt t iter : Expr} {ifs : List Expr} {scope : Scope} {cp p pos : Pos} {xs ys : List PV}
    (h1 : EvI G n sc σ iter xs true) (hlen : xs.length ≤ 1000000) (hc : CompOk G n (cellNames scope) (relab scope sc) κ t ifs elt xs ys) (hcap : Caps sc scope σ κ) (hfree : FreeOk sc scope) (hdot : (relab scope sc).names.lookup (".0" : Str) ≠ none) (hf : sc.names.lookup (".0" : Str) = none)
    (hkind : scope.kind = .function) (hnames : ∀ y ∈ scope.names, y.2 = .local → scope.names.lookup y.1 = some .local) (hs : ∀ env x, foldedSetIterable iter env x = pure x)
    (hk : sc.names.lookup x = some .local ∨ sc.names.lookup x = some .cell) :
    Ex1 G n sc σ (.Assign [.Name x p] (.ListComp elt [⟨t, iter, ifs, 0⟩] scope cp) pos) (.next ((x, .val (.pl ys)) :: σ)) := by
  refine ⟨fun F A Z W s Q E hsc ho ok st h => ?_⟩
  obtain ⟨b, hb⟩ := swaps_comp (elt := elt) (t := t) (iter := iter) (ifs := ifs) (scope := scope) (cp := cp) (p := p) (x := x) (line := pos.line) (env := F.env)
  cases b with
  | false =>
    refine wpAny_Assign_Name ((Ev.compP (pos := cp) h1 hlen hc hcap hfree hdot (.inl hf) hkind hnames hs).run F A Z W s _ _ hsc ok st fun v s1 Z1 e1 z1 r1 => ?_) hb
    exact (st.ext e1 z1).put ho (by rw [hsc]; exact hk) r1 fun s2 g2 st2 => h _ s2 Z1 W ((Gr.of e1 z1).trans g2) ⟨rfl, st2⟩
  | true =>
    rw [exec_Assign_Name_used _ _ _ _ hb]
    refine wpAny_bind (wpAny_standAt (wpAny_bind ?_))
    show wpAny _ A (do let _ ← comprehension (.ListComp elt [⟨t, iter, ifs, 0⟩] scope cp) scope F.env _ (newList []) false (eval iter F.env) (some (PySem.assign (.Name x p) F.env))) _ _ s
    refine wpAny_bind (wpAny_mono (wpAny_comprehension_free (use := some (PySem.assign (.Name x p) F.env)) (Q := fun _ s' => Q .next s') rfl (hs _) (st.closure hsc (.inl ho) hfree) hkind hnames
      (comp_block (pos := cp) (E1 := E) hsc (.inl ho) ok st h1 hlen hc hcap hfree hdot hkind (RR := fun acc C => compPost (model G.prog G.w) A E (some (PySem.assign (.Name x p) F.env)) (fun _ s' => Q .next s') acc C) fun D C s' Z' ws ce => ?_)) (fun _ s' hq => wpAny_pure (wpAny_pure hq)) fun _ _ e => e)
    show wpAny _ A (PySem.assign (.Name x p) F.env (.ref D)) _ _ _
    obtain ⟨k, hpl⟩ := ce.pl
    have z1 : ZG Z s (fun b => Z' b ∨ b = D) s' := ⟨fun b z => .inl (ce.zg.sub b z), fun b z => z.elim (ce.zg.new b) fun e => .inr (e ▸ ce.dD), fun b z => z.elim (ce.zg.lt b) fun e => ⟨_, e ▸ hpl⟩⟩
    have st1 := st.ext ce.ext z1
    have nWC : ¬ W C := fun w => by obtain ⟨o, e⟩ := st.wlt C w; rw [ce.dC] at e; cases e
    refine wpAny_assign_Name (st1.put ho (by rw [hsc]; exact hk) (pv := .pl ys) ?_ fun s2 g2 st2 => ?_)
    · simp only [Rep]
      exact ⟨D, ws, rfl, .inr rfl, ⟨k, hpl⟩, ce.rs.mono (fun _ z => .inl z) fun _ _ _ e => e⟩
    · obtain ⟨m, oc, es, ep, q1, q2⟩ := ce.ns
      refine ⟨m, ⟨oc, es, ep, g2.ext.keep C _ nWC q1, q2⟩, fun h' hs' => ?_⟩
      have e3 : ExtG (fun b => b = C) (fun _ => False) s2 { s2 with heap := h' } := ⟨fun b o nb e => (hs'.2 b nb).trans e, Nat.le_refl _, fun _ _ _ e => e, rfl, fun x => x⟩
      have nZC : ∀ b, (Z' b ∨ b = D) → b ≠ C := fun b z q => z.elim (fun z => ce.zC (q ▸ z)) fun e => ce.ne (e.symm.trans q)
      have z3 : ZG (fun b => Z' b ∨ b = D) s2 (fun b => Z' b ∨ b = D) { s2 with heap := h' } := ⟨fun _ z => z, fun _ z => .inl z, fun b z => let ⟨o, e⟩ := st2.zlt b z; ⟨o, e3.keep b o (nZC b z) e⟩⟩
      have h0C : F.h0.get? C = none := by
        cases e : F.h0.get? C with
        | none => rfl
        | some o => have := st.hk C o e; rw [ce.dC] at this; cases this
      have st3 := st2.step e3 z3 (fun b w q => nWC (q ▸ w)) nZC (fun b q => by have q : b = C := q; rw [q]; exact h0C) (noTrue ho)
      have ga : Gr Z W s (fun b => Z' b ∨ b = D) W s2 := (Gr.of ce.ext z1).trans g2
      exact h _ _ _ W ⟨ga.ext.trans e3 (fun b w => .inr (by have w : b = C := w; rw [w]; exact ce.dC)) (fun _ h => h.elim), ga.zs, ga.zw, ga.wg⟩ ⟨rfl, st3⟩

theorem Ex1.plOut {x : Str} {ys : List PV} {st : Stmt} (h1 : Ex1 G n sc σ st (.next ((x, .val (.pl ys)) :: σ))) : Ex1 G n sc σ st (.next ((x, .val (.list ys)) :: σ)) := by
  refine ⟨fun F A Z W s Q E hsc ho ok st h => h1.run F A Z W s Q E hsc ho ok st fun fl s' Z' W' g o => h fl s' Z' W' g ⟨o.1, ?_⟩⟩
  have q := o.2
  exact { q with
    vals := fun y pv hy => by
      by_cases e : y = x
      · subst e
        rw [lookup_cons_self] at hy
        cases hy
        obtain ⟨v, h1, h2⟩ := q.vals y (.pl ys) (lookup_cons_self ..)
        exact ⟨v, h1, h2.ofPl⟩
      · rw [lookup_cons_ne _ _ e] at hy
        exact q.vals y pv (by rw [lookup_cons_ne _ _ e]; exact hy)
    owns := by
      obtain ⟨ad, h1, h2⟩ := q.owns
      have look : ∀ y l, List.lookup y ((x, Slot.val (.list ys)) :: σ) = some (.own l) → List.lookup y ((x, Slot.val (.pl ys)) :: σ) = some (.own l) := fun y l hy => by
        by_cases e : y = x
        · subst e; rw [lookup_cons_self] at hy; cases hy
        · rw [lookup_cons_ne _ _ e] at hy ⊢; exact hy
      exact ⟨ad, fun y l hy => h1 y l (look y l hy), fun y z l m hy hz => h2 y z l m (look y l hy) (look z m hz)⟩ }
theorem Ex1.assignComp {x : Str} {elt t iter : Expr} {ifs : List Expr} {scope : Scope} {cp p pos : Pos} {xs ys : List PV}
    (h1 : EvI G n sc σ iter xs true) (hlen : xs.length ≤ 1000000) (hc : CompOk G n (cellNames scope) (relab scope sc) κ t ifs elt xs ys) (hcap : Caps sc scope σ κ) (hfree : FreeOk sc scope) (hdot : (relab scope sc).names.lookup (".0" : Str) ≠ none) (hf : sc.names.lookup (".0" : Str) = none)
    (hkind : scope.kind = .function) (hnames : ∀ y ∈ scope.names, y.2 = .local → scope.names.lookup y.1 = some .local) (hs : ∀ env x, foldedSetIterable iter env x = pure x)
    (hk : sc.names.lookup x = some .local ∨ sc.names.lookup x = some .cell) :
    Ex1 G n sc σ (.Assign [.Name x p] (.ListComp elt [⟨t, iter, ifs, 0⟩] scope cp) pos) (.next ((x, .val (.list ys)) :: σ)) :=
  Ex1.plOut (Ex1.assignCompP h1 hlen hc hcap hfree hdot hf hkind hnames hs hk)

/-! methods -/
theorem Ev.methS {id : String} {name : Str} {ob e : Expr} {es : List Expr} {a : Tx} {xs : List PV} {c : PV} {apos pos : Pos} (slot : PySem.Slot "str" name id) (ty : typeOf (.builtin id) = pure (.type "method_descriptor"))
    (h1 : Ev G n sc σ ob (.str a)) (h2 : EvL G n sc σ (e :: es) xs) (h3 : CallV G n (.builtin id) (.str a :: xs) c)
    (hbase : ∀ env, attributeBase ob name env (eval ob env) = eval ob env)
    (hfew : ∀ env, ((backTo pos (starEach (e :: es) env)).all (fun x => !x.1) && (backToKw pos (keywordEach [] env)).all (fun x => x.1.isSome)
      && decide ((e :: es).length + ([] : List Keyword).length + (if ([] : List Keyword).isEmpty then 0 else 1) < 30)) = true)
    (hline : (apos.endLine == pos.line) = true)
    (he : ∀ env pos, backTo pos (starEach (e :: es) env) = (false, eval e env) :: backTo pos (starEach es env)) (hs : ∀ env pos, (backTo pos (starEach (e :: es) env)).any (·.1) = false) :
    Ev G n sc σ (.Call (.Attribute ob name apos) (e :: es) [] pos) c := by
  refine ⟨fun F A Z W s Q E hsc ok st h => ?_⟩
  refine wpAny_Call_method_lateS (hbase _) (hfew _) hline (h1.run F A Z W s _ _ hsc ok st fun v s1 Z1 e1 z1 r1 => ?_)
  have st1 := st.ext e1 z1
  have r1' := r1
  simp only [Rep] at r1'
  obtain ⟨t, rfl⟩ := r1'
  refine ⟨"str", id, PySem.F.plainAttrs_str, slot, ty, typeIs_str _ _ _, (fun _ e => nomatch e), ?_⟩
  refine Calls.callWith_builtin (hs _ _) ?_
  rw [he]
  refine Calls.evalArgs_plain ?_
  rw [← he]
  refine h2.run F A Z1 W s1 _ _ pos hsc ok st1 fun vs s2 Z2 e2 z2 r2 => ?_
  have e12 := e1.trans' e2
  have z12 := z1.trans z2 e1
  refine h3 A Z2 s2 (.str (mkS a) t :: vs) _ _ ok (st.bs.ext e12) z2.lt ⟨_, _, rfl, r1.ext e2 z2, r2⟩ fun r s3 Z3 e3 z3 r3 => h _ _ Z3 (e12.trans' e3) (z12.trans z3 e12) r3

theorem CallV.startswith {a b : Tx} : CallV G n (.builtin "str.startswith") [.str a, .str b] (.bool (prefixB b a)) := by
  intro A Z s vs Q E ok bs zl r h
  simp only [Reps, Rep] at r
  obtain ⟨v, ws, rfl, ⟨t, rfl⟩, w, us, rfl, ⟨u, rfl⟩, rfl⟩ := r
  refine SC.startswith ?_
  have : Txt.startswith (mkS a) (mkS b) = prefixB b a := by
    unfold Txt.startswith
    rw [mkS_len, mkS_len]
    by_cases q : 0 + b.length ≤ a.length
    · rw [subAt_mkS _ _ _ q]; simp; omega
    · rw [decide_eq_false q, Bool.false_and]
      cases e : prefixB b a with
      | false => rfl
      | true => have := prefixB_len e; omega
  rw [this]
  exact fin0 h zl (by simp [Rep])
def suffixB (b a : Tx) : Bool := decide (b.length ≤ a.length) && prefixB b (a.drop (a.length - b.length))
theorem CallV.endswith {a b : Tx} : CallV G n (.builtin "str.endswith") [.str a, .str b] (.bool (suffixB b a)) := by
  intro A Z s vs Q E ok bs zl r h
  simp only [Reps, Rep] at r
  obtain ⟨v, ws, rfl, ⟨t, rfl⟩, w, us, rfl, ⟨u, rfl⟩, rfl⟩ := r
  refine SC.endswith ?_
  have : Txt.endswith (mkS a) (mkS b) = suffixB b a := by
    unfold Txt.endswith suffixB
    rw [mkS_len, mkS_len]
    by_cases q : b.length ≤ a.length
    · rw [subAt_mkS _ _ _ (by omega)]; simp
    · rw [decide_eq_false q, decide_eq_false (by omega), Bool.false_and, Bool.false_and]
  rw [this]
  exact fin0 h zl (by simp [Rep])

/-! the first place of a part -/
def findGo (sub : Tx) (hi : Nat) : Nat → Tx → Option Nat
  | i, [] => if decide (i + sub.length ≤ hi) && prefixB sub [] then some i else none
  | i, x :: t => if decide (i + sub.length ≤ hi) && prefixB sub (x :: t) then some i else findGo sub hi (i + 1) t
def findTl (sub : Tx) (hi i : Nat) : Tx → Option Nat
  | [] => none
  | _ :: t => findGo sub hi (i + 1) t
theorem findGo_eq (sub : Tx) (hi i : Nat) (rest : Tx) : findGo sub hi i rest = if (decide (i + sub.length ≤ hi) && prefixB sub rest) = true then some i else findTl sub hi i rest := by
  cases rest <;> rfl
theorem occ_keeps1 (s sub : Str) (hi : Nat) (a : Nat) : ∀ (l : List Nat) (st : Array Nat × Nat), st.fst = #[a] → (forIn l st (StrLaws.occBody s sub hi 1)).run.fst = #[a]
  | [], st, h => h
  | b :: l, st, h => by
    rw [List.forIn_cons]
    unfold StrLaws.occBody
    rw [if_neg (by rintro ⟨⟨⟨h1, _⟩, _⟩, _⟩; rw [h] at h1; simp at h1)]
    exact occ_keeps1 s sub hi a l _ h
theorem occ_find (x sub : Tx) (hi : Nat) (hhi : hi ≤ x.length) : ∀ (m i free : Nat) (rest : Tx), free ≤ i → i + rest.length = x.length → x.drop i = rest → (i + m = hi + 1 ∨ (m = 0 ∧ hi < i)) →
    (forIn (List.range' i m) ((#[] : Array Nat), free) (StrLaws.occBody (mkS x) (mkS sub) hi 1)).run.fst.toList = (match findGo sub hi i rest with | some k => [k] | none => []) := by
  intro m
  induction m with
  | zero =>
    intro i free rest hf hl hd hm
    have hlt : hi < i := by omega
    have : ∀ (rest : Tx) (i : Nat), hi < i → findGo sub hi i rest = none := by
      intro rest
      induction rest with
      | nil => intro i q; unfold findGo; rw [decide_eq_false (by omega), Bool.false_and, if_neg Bool.false_ne_true]
      | cons y t ih => intro i q; unfold findGo; rw [decide_eq_false (by omega), Bool.false_and, if_neg Bool.false_ne_true]; exact ih (i + 1) (by omega)
    rw [this rest i hlt]
    rfl
  | succ m ih =>
    intro i free rest hf hl hd hm
    have him : i + (m + 1) = hi + 1 := by omega
    rw [List.range'_succ, List.forIn_cons]
    unfold StrLaws.occBody
    have hsub : i + sub.length ≤ x.length → Builtin.Str.subAt (mkS x) (mkS sub) i = prefixB sub rest := fun q => by rw [subAt_mkS _ _ _ q, hd]
    rw [findGo_eq]
    by_cases q : (decide (i + sub.length ≤ hi) && prefixB sub rest) = true
    · rw [if_pos q]
      obtain ⟨q1, q2⟩ := Bool.and_eq_true_iff.mp q
      have q1 := of_decide_eq_true q1
      rw [if_pos ⟨⟨⟨by simp, hf⟩, by rw [mkS_len]; exact q1⟩, by rw [hsub (by omega)]; exact q2⟩]
      show (forIn _ _ (StrLaws.occBody (mkS x) (mkS sub) hi 1)).run.fst.toList = _
      rw [occ_keeps1 (mkS x) (mkS sub) hi i _ _ rfl]
    · rw [if_neg q]
      rw [if_neg (by
        rintro ⟨⟨_, h2⟩, h3⟩
        rw [mkS_len] at h2
        rw [hsub (by omega)] at h3
        exact q (by rw [decide_eq_true h2, h3]; rfl))]
      show (forIn _ _ (StrLaws.occBody (mkS x) (mkS sub) hi 1)).run.fst.toList = _
      cases rest with
      | nil =>
        have : m = 0 := by simp at hl; omega
        subst this
        rfl
      | cons y t =>
        exact ih (i + 1) free t (by omega) (by simp at hl; omega) (by rw [← List.drop_drop, hd]; rfl) (.inl (by omega))
def findL (x sub : Tx) (lo hi : Nat) : Int := match findGo sub hi lo (x.drop lo) with
  | some k => k
  | none => -1
theorem gives_find4 (x y : Str) (i j : Int) (t u v w : Tok) : Gives (Builtin.«str.find» ⟨[.str x t, .str y u, .int i v, .int j w], []⟩) (.int (match Builtin.Str.occurrences x y (PySem.fromIndex x.length i) (min (PySem.fromIndex x.length j) x.length) 1 with | k :: _ => (k : Int) | [] => -1)) := by
  show Gives (match Builtin.Str.occurrences x y (PySem.fromIndex x.length i) (min (PySem.fromIndex x.length j) x.length) 1 with | k :: _ => PySem.retInt k | [] => (do rule "str.find.not-found"; PySem.retInt (-1))) _
  cases Builtin.Str.occurrences x y (PySem.fromIndex x.length i) (min (PySem.fromIndex x.length j) x.length) 1 with
  | nil => exact .rule (.of_eq rfl)
  | cons k _ => exact .of_eq rfl
theorem CallV.find4 {a b : Tx} {i j : Nat} (hij : i ≤ j) (hj : j ≤ a.length) : CallV G n (.builtin "str.find") [.str a, .str b, .int i, .int j] (.int (findL a b i j)) := by
  intro A Z s vs Q E ok bs zl r h
  simp only [Reps, Rep] at r
  obtain ⟨v, ws, rfl, ⟨t, rfl⟩, w, us, rfl, ⟨u, rfl⟩, x, xs, rfl, ⟨p, rfl⟩, y, ys, rfl, ⟨q, rfl⟩, rfl⟩ := r
  refine call_gives PySem.F.slot_str_find (typeIs_str _ _ _) PySem.F.entry_str_find (PySem.F.args_str_find_4 _ _ _ _) (gives_find4 (mkS a) (mkS b) i j t u p q) ?_
  have e1 : PySem.fromIndex (mkS a).length (i : Int) = i := by unfold PySem.fromIndex; split <;> omega
  have e2 : min (PySem.fromIndex (mkS a).length (j : Int)) (mkS a).length = j := by
    rw [mkS_len]; unfold PySem.fromIndex; split <;> omega
  rw [e1, e2, StrLaws.occ_eq, occ_find a b j hj (j + 1 - i) i i (a.drop i) (Nat.le_refl _) (by rw [List.length_drop]; omega) rfl (.inl (by omega))]
  have : (match (match findGo b j i (a.drop i) with | some k => [k] | none => ([] : List Nat)) with | k :: _ => (k : Int) | [] => -1) = findL a b i j := by
    unfold findL
    cases findGo b j i (a.drop i) <;> rfl
  rw [this]
  exact finT h zl (by simp [Rep])
end
end Mine
namespace Mine

/-! split -/
def splitGo (sp : Tx) : Nat → Tx → Tx → List Tx
  | _, cur, [] => [cur]
  | 0, cur, x :: t => if prefixB sp (x :: t) then cur :: splitGo sp (sp.length - 1) [] t else splitGo sp 0 (cur ++ [x]) t
  | k + 1, cur, _ :: t => splitGo sp k cur t
def occAll (sp : Tx) : Nat → Nat → Tx → List Nat
  | _, _, [] => []
  | i, 0, x :: t => if prefixB sp (x :: t) then i :: occAll sp (i + 1) (sp.length - 1) t else occAll sp (i + 1) 0 t
  | i, k + 1, _ :: t => occAll sp (i + 1) k t
theorem occ_all (x sp : Tx) (hsp : 1 ≤ sp.length) (limit : Nat) : ∀ (rest : Tx) (i free : Nat) (found : Array Nat), i + rest.length = x.length → x.drop i = rest → found.size + rest.length + 1 ≤ limit →
    (forIn (List.range' i (rest.length + 1)) (found, free) (StrLaws.occBody (mkS x) (mkS sp) x.length limit)).run.fst.toList = found.toList ++ occAll sp i (free - i) rest := by
  intro rest
  induction rest with
  | nil =>
    intro i free found hl hd hlim
    simp only [List.length_nil, Nat.add_zero, Nat.zero_add] at hl ⊢
    rw [List.range'_succ, List.forIn_cons]
    unfold StrLaws.occBody
    rw [if_neg (by rintro ⟨⟨_, h⟩, _⟩; rw [mkS_len] at h; omega)]
    simp [occAll]
  | cons y t ih =>
    intro i free found hl hd hlim
    simp only [List.length_cons] at hl hlim ⊢
    rw [List.range'_succ, List.forIn_cons]
    unfold StrLaws.occBody
    have hdt : x.drop (i + 1) = t := by rw [← List.drop_drop, hd]; rfl
    have hsub : i + sp.length ≤ x.length → Builtin.Str.subAt (mkS x) (mkS sp) i = prefixB sp (y :: t) := fun q => by rw [subAt_mkS _ _ _ q, hd]
    by_cases hf : free ≤ i
    · have e0 : free - i = 0 := by omega
      rw [e0]
      simp only [occAll]
      by_cases q : prefixB sp (y :: t) = true
      · have hq := prefixB_len q
        simp only [List.length_cons] at hq
        rw [if_pos q, if_pos ⟨⟨⟨by show found.size < limit; omega, hf⟩, by rw [mkS_len]; omega⟩, by rw [hsub (by omega)]; exact q⟩]
        show (forIn _ (found.push i, i + (mkS sp).length) (StrLaws.occBody (mkS x) (mkS sp) x.length limit)).run.fst.toList = _
        rw [ih (i + 1) _ _ (by omega) hdt (by rw [Array.size_push]; omega), mkS_len]
        have e1 : i + sp.length - (i + 1) = sp.length - 1 := by omega
        rw [e1]; simp
      · rw [if_neg q, if_neg (by
          rintro ⟨⟨_, h2⟩, h3⟩
          rw [mkS_len] at h2
          rw [hsub h2] at h3
          exact q h3)]
        show (forIn _ (found, free) (StrLaws.occBody (mkS x) (mkS sp) x.length limit)).run.fst.toList = _
        rw [ih (i + 1) _ _ (by omega) hdt (by omega)]
        have e1 : free - (i + 1) = 0 := by omega
        rw [e1]
    · rw [if_neg (by rintro ⟨⟨⟨_, h2⟩, _⟩, _⟩; exact hf h2)]
      show (forIn _ (found, free) (StrLaws.occBody (mkS x) (mkS sp) x.length limit)).run.fst.toList = _
      rw [ih (i + 1) _ _ (by omega) hdt (by omega)]
      obtain ⟨k, hk⟩ : ∃ k, free - i = k + 1 := ⟨free - i - 1, by omega⟩
      rw [hk]
      have e1 : free - (i + 1) = k := by omega
      rw [e1]
      simp only [occAll]
theorem sub_mkS (x : Tx) (i j : Nat) : Builtin.Str.strSub (mkS x) i j = mkS ((x.drop i).take (j - i)) := by
  apply Str.ext'
  apply Array.toList_inj.mp
  rw [StrLaws.strSub_toList, mkS_cps, mkS_cps]
theorem parts_split (x sp : Tx) (hsp : 1 ≤ sp.length) : ∀ (rest : Tx) (i skip start : Nat) (cur : Tx), i + rest.length = x.length → x.drop i = rest → skip ≤ rest.length →
    (skip = 0 ∧ start ≤ i ∧ cur = (x.drop start).take (i - start) ∨ start = i + skip ∧ cur = []) → StrLaws.partsFrom (mkS x) sp.length start (occAll sp i skip rest) = (splitGo sp skip cur rest).map mkS := by
  intro rest
  induction rest with
  | nil =>
    intro i skip start cur hl hd hsk h
    simp only [List.length_nil, Nat.add_zero, Nat.le_zero_eq] at hl hsk
    subst hsk
    simp only [occAll, splitGo, StrLaws.partsFrom, List.map_cons, List.map_nil]
    rw [sub_mkS, mkS_len]
    rcases h with ⟨_, h1, rfl⟩ | ⟨h1, rfl⟩
    · rw [hl]
    · have : start = x.length := by omega
      rw [this]; simp
  | cons y t ih =>
    intro i skip start cur hl hd hsk h
    simp only [List.length_cons] at hl hsk
    have hdt : x.drop (i + 1) = t := by rw [← List.drop_drop, hd]; rfl
    cases skip with
    | zero =>
      have h' : start ≤ i ∧ cur = (x.drop start).take (i - start) := by
        rcases h with ⟨_, h1, h2⟩ | ⟨h1, h2⟩
        · exact ⟨h1, h2⟩
        · refine ⟨by omega, ?_⟩
          have : i - start = 0 := by omega
          rw [this, h2]; rfl
      simp only [occAll, splitGo]
      by_cases q : prefixB sp (y :: t) = true
      · have hq := prefixB_len q
        simp only [List.length_cons] at hq
        rw [if_pos q, if_pos q]
        simp only [StrLaws.partsFrom, List.map_cons]
        rw [sub_mkS, ← h'.2, ih (i + 1) (sp.length - 1) (i + sp.length) [] (by omega) hdt (by omega) (.inr ⟨by omega, rfl⟩)]
      · rw [if_neg q, if_neg q]
        refine ih (i + 1) 0 start (cur ++ [y]) (by omega) hdt (Nat.zero_le _) (.inl ⟨rfl, by omega, ?_⟩)
        rw [h'.2]
        have e1 : i + 1 - start = (i - start) + 1 := by omega
        have e2 : (x.drop start).drop (i - start) = y :: t := by rw [List.drop_drop, show start + (i - start) = i by omega]; exact hd
        rw [e1, List.take_add, e2]; rfl
    | succ k =>
      simp only [occAll, splitGo]
      rcases h with ⟨h0, _⟩ | ⟨h1, rfl⟩
      · cases h0
      · exact ih (i + 1) k start [] (by omega) hdt (by omega) (.inr ⟨by omega, rfl⟩)
def splitE (sp x : Tx) : List Tx := splitGo sp 0 [] x
theorem split_mkS (x sp : Tx) (hsp : 1 ≤ sp.length) (hk : Builtin.Str.strKind (mkS sp) = 1) : Txt.split (mkS x) (mkS sp) = (splitE sp x).map mkS := by
  have key : Builtin.Str.occurrences (mkS x) (mkS sp) 0 (mkS x).length ((mkS x).length + 1) = occAll sp 0 0 x := by
    rw [StrLaws.occ_eq, mkS_len]
    have := occ_all x sp hsp (x.length + 1) x 0 0 #[] (by simp) rfl (by simp)
    simpa using this
  have hp := parts_split x sp hsp x 0 0 0 [] (by simp) rfl (Nat.zero_le _) (.inr ⟨rfl, rfl⟩)
  have hone : occAll sp 0 0 x = [] → (splitE sp x).map mkS = [mkS x] := fun e => by
    unfold splitE; rw [← hp, e]
    simp only [StrLaws.partsFrom]
    rw [sub_mkS, mkS_len]; simp
  unfold Txt.split
  rw [mkS_len, mkS_len, ← mkS_len x, key, mkS_len]
  by_cases h1 : (decide (x.length < sp.length) || decide (Builtin.Str.strKind (mkS x) < Builtin.Str.strKind (mkS sp))) = true
  · rw [if_pos h1]
    have hk1 : ¬ Builtin.Str.strKind (mkS x) < Builtin.Str.strKind (mkS sp) := by
      rw [hk]; unfold Builtin.Str.strKind; split
      · omega
      · split <;> omega
    rw [decide_eq_false hk1, Bool.or_false] at h1
    have hlt := of_decide_eq_true h1
    have none_ : ∀ (rest : Tx) (i : Nat), rest.length < sp.length → occAll sp i 0 rest = [] := by
      intro rest
      induction rest with
      | nil => intro i _; rfl
      | cons y t ih =>
        intro i hl
        simp only [occAll]
        rw [if_neg (fun q => by have := prefixB_len q; omega)]
        exact ih (i + 1) (by simp only [List.length_cons] at hl; omega)
    exact (hone (none_ x 0 hlt)).symm
  · rw [if_neg h1]
    by_cases h2 : (occAll sp 0 0 x).isEmpty = true
    · rw [if_pos h2]; exact (hone (List.isEmpty_iff.mp h2)).symm
    · rw [if_neg h2, StrLaws.partsBetween_eq]; exact hp
theorem split_len (sp : Tx) : ∀ (x : Tx) (k : Nat) (cur : Tx), (splitGo sp k cur x).length ≤ x.length + 1
  | [], _, _ => by simp [splitGo]
  | y :: t, 0, cur => by
    simp only [splitGo]
    split
    · have := split_len sp t (sp.length - 1) []; simp only [List.length_cons]; omega
    · have := split_len sp t 0 (cur ++ [y]); simp only [List.length_cons]; omega
  | y :: t, k + 1, cur => by
    simp only [splitGo]
    have := split_len sp t k cur
    simp only [List.length_cons]; omega

theorem reps_nums {Z : Addr → Prop} {h : Heap} : ∀ {ts : List Tx} {l : List (Str × Tok)}, l.map (·.1) = ts.map mkS → Reps Z h (sts ts) (strValues l)
  | [], l, e => by
    cases l with
    | nil => rfl
    | cons => simp at e
  | t :: ts, l, e => by
    cases l with
    | nil => simp at e
    | cons p l =>
      simp only [List.map_cons, List.cons.injEq] at e
      refine ⟨.str p.1 p.2, strValues l, rfl, ?_, reps_nums e.2⟩
      simp only [Rep]
      exact ⟨p.2, by rw [e.1]⟩

section
variable {G : Gc} {n : Nat} {σ τ κ : Loc} {sc : Scope} {o : Out}

theorem EvN.split {ob e : Expr} {a sp : Tx} {apos pos : Pos} (h1 : Ev G n sc σ ob (.str a)) (h2 : Ev G n sc σ e (.str sp)) (hsp : 1 ≤ sp.length) (hk : Builtin.Str.strKind (mkS sp) = 1) (hl : a.length < 1000000)
    (hbase : ∀ env, attributeBase ob "split" env (eval ob env) = eval ob env)
    (hfew : ∀ env, ((backTo pos (starEach [e] env)).all (fun x => !x.1) && (backToKw pos (keywordEach [] env)).all (fun x => x.1.isSome)
      && decide ([e].length + ([] : List Keyword).length + (if ([] : List Keyword).isEmpty then 0 else 1) < 30)) = true)
    (hline : (apos.endLine == pos.line) = true) (he : ∀ env pos, backTo pos (starEach [e] env) = [(false, eval e env)]) :
    EvN G n sc σ (.Call (.Attribute ob "split" apos) [e] [] pos) (sts (splitE sp a)) := by
  refine ⟨fun F A Z W s Q E hsc ok st h => ?_⟩
  refine wpAny_Call_method_lateS (hbase _) (hfew _) hline (h1.run F A Z W s _ _ hsc ok st fun v s1 Z1 e1 z1 r1 => ?_)
  have st1 := st.ext e1 z1
  simp only [Rep] at r1
  obtain ⟨t, rfl⟩ := r1
  refine ⟨"str", "str.split", PySem.F.plainAttrs_str, PySem.F.slot_str_split, PySem.F.type_str_split, typeIs_str _ _ _, (fun _ e => nomatch e), ?_⟩
  refine Calls.callWith_builtin (by rw [he]; rfl) ?_
  rw [he]
  refine Calls.evalArgs_plain (Calls.spliced_cons (h2.run F A Z1 W s1 _ _ hsc ok st1 fun w s2 Z2 e2 z2 r2 => Calls.spliced_nil ?_))
  simp only [Rep] at r2
  obtain ⟨u, rfl⟩ := r2
  have e12 := e1.trans' e2
  have z12 := z1.trans z2 e1
  have nd := Ext0.dead e12 (none_size s2.heap)
  have hy : ((mkS sp).length == 0) = false := by rw [mkS_len]; exact beq_eq_false_iff_ne.mpr (by omega)
  have hsplit := split_mkS a sp hsp hk
  have fin : ∀ (l : List (Str × Tok)) (tk : Nat), l.map (·.1) = Txt.split (mkS a) (mkS sp) → Q (.ref s2.heap.objs.size) { s2 with toks := tk, heap := s2.heap.push { cls := .type "list", data := .seq (strValues l).toArray } } := fun l tk hl => by
    have e3 := Ext0.push s2 { cls := .type "list", data := .seq (strValues l).toArray } tk
    have z3 := ZG.same z12.lt e3
    exact h _ _ _ Z2 (e12.trans' e3) (z12.trans z3 e12) nd (not_live z12.lt (none_size _)) ⟨0, Heap.get?_push_size _ rfl⟩ (reps_nums (hl.trans hsplit))
  have hsz : (mkS a).length ≤ sizeLine := by rw [mkS_len, sizeLine_eq]; omega
  show wpAny _ A (call (.builtin "str.split") [.str (mkS a) t, .str (mkS sp) u]) Q E s2
  cases h1 : (decide ((mkS a).length < (mkS sp).length) || decide (Builtin.Str.strKind (mkS a) < Builtin.Str.strKind (mkS sp)))
  · cases hf : (Builtin.Str.occurrences (mkS a) (mkS sp) 0 (mkS a).length ((mkS a).length + 1)).isEmpty
    · have hpe : Txt.split (mkS a) (mkS sp) = Builtin.Str.partsBetween (mkS a) (Builtin.Str.occurrences (mkS a) (mkS sp) 0 (mkS a).length ((mkS a).length + 1)) (mkS sp).length := (if_neg (ne_true_of_eq_false h1)).trans (if_neg (ne_true_of_eq_false hf))
      refine call_meets PySem.F.slot_str_split (typeIs_str _ _ _) PySem.F.entry_str_split (PySem.F.args_str_split_2 _ _) (meets_str_split_sep (mkS a) (mkS sp) t u h1 hy hf hsz ?_) ?_
      · rw [← hpe, hsplit, List.length_map, sizeLine_eq]
        have := split_len sp a 0 []
        unfold splitE; omega
      · show wants Q E _ { s2 with toks := _, heap := s2.heap.push { cls := .type "list", data := .seq (PySem.strsFrom s2.toks (Builtin.Str.partsBetween (mkS a) (Builtin.Str.occurrences (mkS a) (mkS sp) 0 (mkS a).length ((mkS a).length + 1)) (mkS sp).length)).toArray } }
        rw [strsFrom_eq]
        exact fin (numbered s2.toks _) _ ((numbered_texts _ _).trans hpe.symm)
    · exact call_meets PySem.F.slot_str_split (typeIs_str _ _ _) PySem.F.entry_str_split (PySem.F.args_str_split_2 _ _) (meets_str_split_not_found (mkS a) (mkS sp) t u h1 hy hf)
        (fin [(mkS a, t)] s2.toks ((if_neg (ne_true_of_eq_false h1)).trans (if_pos hf)).symm)
  · exact call_meets PySem.F.slot_str_split (typeIs_str _ _ _) PySem.F.entry_str_split (PySem.F.args_str_split_2 _ _) (meets_str_split_cannot_occur (mkS a) (mkS sp) t u h1)
      (fin [(mkS a, t)] s2.toks (if_pos h1).symm)

/-! join -/
def joinT (sep : Tx) : List Tx → Tx
  | [] => []
  | a :: r => r.foldl (fun acc p => acc ++ sep ++ p) a
theorem foldl_mkS (sep : Tx) : ∀ (r : List Tx) (a : Tx), (r.map mkS).foldl (fun (acc : Array Nat) (p : Str) => acc ++ (mkS sep).cps ++ p.cps) a.toArray = (r.foldl (fun acc p => acc ++ sep ++ p) a).toArray
  | [], a => rfl
  | b :: r, a => by
    rw [List.map_cons, List.foldl_cons, List.foldl_cons, ← foldl_mkS sep r]
    congr 1
    simp [mkS]
theorem join_mkS (sep : Tx) (l : List Tx) : Txt.join (mkS sep) (l.map mkS) = mkS (joinT sep l) := by
  unfold Txt.join Builtin.Str.glued
  cases l with
  | nil => rfl
  | cons a r =>
    apply Str.ext'
    exact foldl_mkS sep r a
theorem strs_of_reps {Z : Addr → Prop} {h : Heap} : ∀ {ts : List Tx} {vs : List Value}, Reps Z h (sts ts) vs → ∃ l : List (Str × Tok), vs = strValues l ∧ l.map (·.1) = ts.map mkS
  | [], vs, r => ⟨[], by simpa [Reps, sts, strValues] using r, rfl⟩
  | t :: ts, vs, r => by
    obtain ⟨v, ws, rfl, r1, r2⟩ := r
    simp only [Rep] at r1
    obtain ⟨u, rfl⟩ := r1
    obtain ⟨l, rfl, hl⟩ := strs_of_reps r2
    exact ⟨(mkS t, u) :: l, rfl, by simp [hl]⟩
def joinW (sep : Tx) (l : List Tx) : Nat := (l.map fun t => t.length + sep.length).sum
theorem foldl_w (k : Nat) : ∀ (l : List Str) (a : Nat), l.foldl (fun x1 (x2 : Str) => x1 + x2.length + k) a = a + (l.map fun t => t.length + k).sum
  | [], a => by simp
  | b :: l, a => by rw [List.foldl_cons, foldl_w k l, List.map_cons, List.sum_cons]; omega
theorem CallV.join {sep : Tx} {l : List Tx} (hw : joinW sep l ≤ 1000000) : CallV G n (.builtin "str.join") [.str sep, .list (sts l)] (.str (joinT sep l)) := by
  intro A Z s vs Q E ok bs zl r h
  simp only [Reps, Rep] at r
  obtain ⟨v, ws, rfl, ⟨t, rfl⟩, w, us, rfl, ⟨a, xs, rfl, za, hL, rs⟩, rfl⟩ := r
  obtain ⟨ll, rfl, hll⟩ := strs_of_reps rs
  refine SC.join hL hll ?_ fun t' k => ?_
  · unfold JoinOk Builtin.Str.tooLong
    rw [Bool.not_eq_true']
    refine decide_eq_false ?_
    rw [sizeLine_eq, ← Array.foldl_toList, foldl_w]
    have : ((l.map mkS).map fun t => t.length + (mkS sep).length).sum = joinW sep l := by
      unfold joinW
      rw [List.map_map]
      congr 1
    have e : (List.map mkS l).toArray.toList = List.map mkS l := rfl
    rw [e]
    omega
  · rw [join_mkS]
    exact finT h zl (by simp [Rep])

/-! lists -/
theorem BinV.addL {xs ys : List PV} (hl : xs.length + ys.length ≤ 1000000) : BinV G n .Add (.list xs) (.list ys) (.list (xs ++ ys)) := by
  intro A Z s v w Q E ok zl ra rb h
  simp only [Rep] at ra rb
  obtain ⟨a, vs, rfl, za, hL, rs⟩ := ra
  obtain ⟨b, ws, rfl, zb, hM, rt⟩ := rb
  obtain ⟨⟨cls, dd, data, sl⟩, ho, hc, m, hd⟩ := id hL
  obtain ⟨⟨cls2, dd2, data2, sl2⟩, ho2, hc2, n2, hd2⟩ := id hM
  simp only at hc hd hc2 hd2
  subst hc hd hc2 hd2
  have e : vs.toArray ++ ws.toArray = (vs ++ ws).toArray := by simp
  refine concat_meets ⟨_, ho, rfl⟩ ⟨_, ho2, rfl⟩ noFill_list_add seq_list_add PySem.F.slot_list_add PySem.F.entry_list_add (PySem.F.args_list_add_2 _ _) (list_addW a b vs.toArray ws.toArray m n2 dd dd2 sl sl2 (by
    have := rs.length; have := rt.length
    simp only [List.size_toArray, sizeLine_eq]; omega)) ⟨ho, ho2, ?_⟩
  rw [e]
  exact finL (tk := s.toks) h zl (fun b o e => Heap.get?_push_of_some _ e) (Heap.get?_push_size _ rfl) ((rs.append rt).mono (fun _ z => z) fun b o _ e => Heap.get?_push_of_some _ e)

def repL {α : Type} (xs : List α) : Nat → List α
  | 0 => []
  | k + 1 => xs ++ repL xs k
theorem foldl_rep (vs : List Value) : ∀ (k : Nat) (acc : List Value), List.foldl (fun (x1 x2 : Array Value) => x1 ++ x2) acc.toArray (List.replicate k vs.toArray) = (acc ++ repL vs k).toArray
  | 0, acc => by simp [repL]
  | k + 1, acc => by
    rw [List.replicate_succ, List.foldl_cons]
    have : acc.toArray ++ vs.toArray = (acc ++ vs).toArray := by simp
    rw [this, foldl_rep vs k]
    simp [repL]
theorem Reps.rep {Z : Addr → Prop} {h : Heap} {xs : List PV} {vs : List Value} (r : Reps Z h xs vs) : ∀ k, Reps Z h (repL xs k) (repL vs k)
  | 0 => rfl
  | k + 1 => r.append (Reps.rep r k)
theorem fits_k {k : Nat} (hk : k ≤ 1000000) : ¬ (!Builtin.List.listFitsIndex (k : Int)) = true := by
  unfold Builtin.List.listFitsIndex
  simp
  omega
/-- [..] * k -/
theorem Ev.mulN {l r : Expr} {xs : List PV} {k : Nat} {pos} (h1 : EvN G n sc σ l xs) (h2 : Ev G n sc σ r (.int k)) (hne : xs ≠ []) (hs : xs.length * k ≤ 1000000) (hk : k ≤ 1000000) : Ev G n sc σ (.BinOp l .Mult r pos) (.list (repL xs k)) := by
  refine ⟨fun F A Z W s Q E hsc ok st h => ?_⟩
  refine wpAny_BinOp (h1.run F A Z W s _ _ hsc ok st fun a vs s1 Z1 e1 z1 na za hp r1 => ?_)
  have st1 := st.ext e1 z1
  refine h2.run F A Z1 W s1 _ _ hsc ok st1 fun w s2 Z2 e2 z2 r2 => ?_
  simp only [Rep] at r2
  obtain ⟨u, rfl⟩ := r2
  obtain ⟨c, hp⟩ := hp
  have hp2 := e2.keep' _ _ hp
  have rr := r1.ext e2 z2
  have e12 := e1.trans' e2
  have z12 := z1.trans z2 e1
  have hvne : vs.toArray.isEmpty = false := by
    cases vs with
    | nil => have := r1.length; cases xs with
      | nil => exact absurd rfl hne
      | cons => simp at this
    | cons => rfl
  have hlen := r1.length
  obtain ⟨x, hx⟩ : ∃ x : Int, x = (k : Int) := ⟨_, rfl⟩
  rw [← hx]
  have hxk : x.toNat = k := by rw [hx, Int.toNat_natCast]
  have fin : Q (.ref s2.heap.objs.size) { s2 with heap := s2.heap.push { cls := .type "list", data := .seq (List.foldl (fun x1 x2 => x1 ++ x2) #[] (List.replicate (if vs.toArray.isEmpty = true then 0 else x.toNat) vs.toArray)) } } := by
    rw [if_neg (by rw [hvne]; exact Bool.false_ne_true), show (#[] : Array Value) = ([] : List Value).toArray from rfl, foldl_rep, List.nil_append, hxk]
    exact finL (tk := s2.toks) (fun r s' Z' e' z' r' => h r s' Z' (e12.trans' e') (z12.trans z' e12) r') z12.lt (fun b o e => Heap.get?_push_of_some _ e) (Heap.get?_push_size _ rfl) ((rr.rep k).mono (fun _ z => z) fun b o _ e => Heap.get?_push_of_some _ e)
  have c0 := hx ▸ fits_k hk
  have c1 : ¬ vs.toArray.size * x.toNat > (2 ^ 63 - 1) / 8 := by rw [List.size_toArray, hlen, hxk]; omega
  have c2 : ¬ Builtin.List.listTooLong (vs.toArray.size * x.toNat) = true := by unfold Builtin.List.listTooLong; rw [decide_eq_true_eq, sizeLine_eq, List.size_toArray, hlen, hxk]; omega
  exact wpAny_binaryOp_repeat_ref (T := "list") (U := "int") (by decide) ⟨_, hp2, rfl⟩ (fun s' => typeIs_int s' x u) noFill_list_mul PySem.F.fills_int_mul PySem.F.slot_int_rmul repeat_list PySem.F.slot_int_index.lookup
    (call_meets PySem.F.slot_int_rmul (typeIs_int s2 x u) PySem.F.entry_int_rmul (PySem.F.args_int_rmul_2 _ _) (int___rmul___int_list x u a vs.toArray c)
      ⟨hp2, rfl, ⟨_, hp2, rfl⟩, call_meets PySem.F.slot_list_mul ⟨_, hp2, rfl⟩ PySem.F.entry_list_mul (PySem.F.args_list_mul_2 _ _)
        (AutoListH.list___mul___list_int_3 a vs.toArray c x u c0 c1 c2) ⟨hp2, fin⟩⟩)
end
end Mine
namespace Mine

theorem wrap_id {α : Type} (m : Sem α) : m.wrap Sem.pure Sem.raise id id = m := by
  have := Sem.bind_eq_wrap' m (fun a => Sem.pure a)
  rw [← this]
  exact bind_pure m

section
variable {α β : Type} {M : Model} {A : Around} {R : GenEnd} {Y : Protocol} {c : Code} {fs : List Frame} {n : Nat} {s₀ s : Shared}

/-- a piece of a generator's work -/
def GW (M : Model) (A : Around) (R : GenEnd) (Y : Protocol) (c : Code) (fs : List Frame) (m : Sem α) (P : Nat → Shared → α → Shared → Prop) (n : Nat) (s₀ s : Shared) : Prop :=
  ∀ (K : α → Sem Fin) (H : Value → Sem Fin) (gd : Bool → Bool) (lv : List Value → List Value), gd false = false → (∀ n' s₀' a s', P n' s₀' a s' → Seg M A R Y n' s₀' c (K a) fs s') → Seg M A R Y n s₀ c (m.wrap K H gd lv) fs s

theorem GW.wp {m : Sem α} {P : Nat → Shared → α → Shared → Prop} (h : wpAny M (A.over c fs) m (fun a s' => P n s₀ a s') (fun _ _ => False) s) : GW M A R Y c fs m P n s₀ s :=
  fun K H gd lv _ k => seg_wrap (wpAny_mono h (fun a s' q => k _ _ _ _ q) fun _ _ f => f.elim)
theorem GW.pure {a : α} {P : Nat → Shared → α → Shared → Prop} (h : P n s₀ a s) : GW M A R Y c fs (pure a) P n s₀ s := fun K H gd lv _ k => k _ _ _ _ h
theorem GW.bind {m : Sem α} {f : α → Sem β} {P : Nat → Shared → β → Shared → Prop} (h : GW M A R Y c fs m (fun n s₀ a s => GW M A R Y c fs (f a) P n s₀ s) n s₀ s) : GW M A R Y c fs (m >>= f) P n s₀ s := by
  intro K H gd lv hg k
  rw [Sem.bind_eq_wrap', Sem.wrap_wrap]
  exact h _ _ _ _ hg fun n' s₀' a s' q => q K H gd lv hg k
theorem GW.bindW {m : Sem α} {f : α → Sem β} {P : Nat → Shared → β → Shared → Prop} (h : wpAny M (A.over c fs) m (fun a s' => GW M A R Y c fs (f a) P n s₀ s') (fun _ _ => False) s) : GW M A R Y c fs (m >>= f) P n s₀ s := GW.bind (GW.wp h)
theorem GW.mono {m : Sem α} {P P' : Nat → Shared → α → Shared → Prop} (h : GW M A R Y c fs m P n s₀ s) (hp : ∀ n s₀ a s, P n s₀ a s → P' n s₀ a s) : GW M A R Y c fs m P' n s₀ s :=
  fun K H gd lv hg k => h K H gd lv hg fun n' s₀' a s' q => k _ _ _ _ (hp _ _ _ _ q)
theorem GW.onRaise {m : Sem α} {g : Value → Sem Unit} {P : Nat → Shared → α → Shared → Prop} (h : GW M A R Y c fs m P n s₀ s) : GW M A R Y c fs (m.onRaise g) P n s₀ s := by
  intro K H gd lv hg k
  rw [Sem.onRaise_eq_wrap, Sem.wrap_wrap]
  exact h _ _ _ _ hg k
theorem GW.yield {v : Value} {P : Nat → Shared → Value → Shared → Prop} (hfs : splitAtGen fs = none) (hfg : fs.any Frame.guarded = false)
    (h : ∀ kap : Resume → Shared → Prop, (∀ s'', P n s'' .none s'' → kap (.send .none) s'') → Y n s₀ v s kap) : GW M A R Y c fs (yieldValue v) P (n + 1) s₀ s := by
  intro K H gd lv hg k
  show Seg M A R Y (n + 1) s₀ c (.yield v (gd false) (lv []) _) fs s
  exact seg_yield hfs hg hfg (h _ fun s'' q => k _ _ _ _ q)

/-- a loop's own run, below c -/
def GC (M : Model) (A : Around) (R : GenEnd) (Y : Protocol) (c' : Code) (c : Code) (fs : List Frame) (P : Nat → Shared → Flow → Shared → Prop) (n : Nat) (s₀ s : Shared) : Prop :=
  ∀ (k : Result → Sem Fin) g l p kp, g = false → (∀ n' s₀' f s', P n' s₀' f s' → Seg M A R Y n' s₀' c (k (.ok f)) fs s') → Seg M A R Y n s₀ c' (M.den c') (.ret k none g l c p kp :: fs) s
def GFin (M : Model) (A : Around) (R : GenEnd) (Y : Protocol) (c : Code) (fs : List Frame) (P : Nat → Shared → Flow → Shared → Prop) (n : Nat) (s₀ : Shared) (x : Fin) (s : Shared) : Prop := match x with
  | .again c'' => c''.quiet = true ∧ GC M A R Y c'' c fs P n s₀ s
  | .done f => P n s₀ f s
theorem GW.run {c' : Code} {P : Nat → Shared → Flow → Shared → Prop} (h : GC M A R Y c' c fs P n s₀ s) : GW M A R Y c fs (run c' none) P n s₀ s := by
  intro K H gd lv hg k
  exact seg_call fun p => h _ _ _ p [] hg fun n' s₀' f s' q => k _ _ _ _ q
/-- a frame that waits for a loop -/
inductive Waits (c : Code) : Frame → Prop
  | ret {k l p kp} : Waits c (.ret k none false l c p kp)
theorem Waits.split {c : Code} {fr : Frame} (w : Waits c fr) {fs : List Frame} (h : splitAtGen fs = none) : splitAtGen (fr :: fs) = none := by
  cases w; simp [splitAtGen, h]
theorem Waits.guard {c : Code} {fr : Frame} (w : Waits c fr) {fs : List Frame} (h : fs.any Frame.guarded = false) : (fr :: fs).any Frame.guarded = false := by
  cases w; simp only [List.any_cons, Frame.guarded, h]; rfl
theorem GC.of {c' : Code} {m : Sem Fin} {P : Nat → Shared → Flow → Shared → Prop} (hd : M.den c' = m) (h : ∀ fr, Waits c fr → GW M A R Y c' (fr :: fs) m (GFin M A R Y c fs P) n s₀ s) : GC M A R Y c' c fs P n s₀ s := by
  intro k g l p kp hg kk
  subst hg
  rw [hd]
  have := h (.ret k none false l c p kp) .ret Sem.pure Sem.raise id id rfl fun n' s₀' x s' q => ?_
  · rw [wrap_id] at this; exact this
  · cases x with
    | again c'' => exact seg_again q.1 (q.2 k false l p kp rfl kk)
    | done f => exact seg_leaf (.ok f) (kk _ _ _ _ q)

/-! statements -/
variable {env : Env}
theorem GW.nil {P : Nat → Shared → Flow → Shared → Prop} (h : P n s₀ .next s) : GW M A R Y c fs (execs [] env) P n s₀ s := GW.pure (a := Flow.next) h
theorem GW.cons {st : Stmt} {ss : List Stmt} {P : Nat → Shared → Flow → Shared → Prop} (h : GW M A R Y c fs (exec st env) (fun n s₀ f s => match f with | .next => GW M A R Y c fs (execs ss env) P n s₀ s | f => P n s₀ f s) n s₀ s) :
    GW M A R Y c fs (execs (st :: ss) env) P n s₀ s := by
  rw [execs_cons]
  refine GW.bind (h.mono fun n s₀ f s q => ?_)
  cases f with
  | next => exact q
  | _ => exact GW.pure q
theorem GW.if_ {t : Expr} {a b : List Stmt} {pos : Pos} {P : Nat → Shared → Flow → Shared → Prop}
    (h : wpAny M (A.over c fs) (isTrue t env (eval t env)) (fun x s' => if x = true then GW M A R Y c fs (execs a env) P n s₀ s' else GW M A R Y c fs (execs b env) P n s₀ s') (fun _ _ => False) s) :
    GW M A R Y c fs (exec (.If t a b pos) env) P n s₀ s := by
  rw [exec_If]
  refine GW.bindW (wpAny_standAt (GW.bindW (wpAny_mono h (fun x s' q => ?_) fun _ _ f => f)))
  cases x with
  | true => exact q
  | false => exact q
theorem GW.exprYield {e : Expr} {yp pos : Pos} {P : Nat → Shared → Flow → Shared → Prop} (hfs : splitAtGen fs = none) (hfg : fs.any Frame.guarded = false) (hi : interactive env = false) (hco : env.scope.isCoroutine = false)
    (h : wpAny M (A.over c fs) (eval e env) (fun v s' => ∀ kap : Resume → Shared → Prop, (∀ s'', P n s'' .next s'' → kap (.send .none) s'') → Y n s₀ v s' kap) (fun _ _ => False) s) :
    GW M A R Y c fs (exec (.Expr (.Yield (some e) yp) pos) env) P (n + 1) s₀ s := by
  rw [exec_Expr env _ pos hi rfl, arm_eval_Yield]
  refine GW.bindW (wpAny_standAt (GW.bind ?_))
  show GW M A R Y c fs (eval e env >>= fun v => standAt yp >>= fun _ => yieldOut env v) _ (n + 1) s₀ s
  refine GW.bindW (wpAny_mono h (fun v s' q => ?_) fun _ _ f => f)
  refine GW.bindW (wpAny_standAt ?_)
  have hy : yieldOut env v = yieldValue v := by simp only [yieldOut, hco, Bool.false_eq_true, if_false]
  rw [hy]
  exact GW.yield hfs hfg fun kap hk => q kap fun s'' p => hk s'' (GW.pure (a := Flow.next) p)
theorem GW.runOwn {c' : Code} {P : Nat → Shared → Flow → Shared → Prop} (h : GC M A R Y c' c fs P n s₀ s) : GW M A R Y c fs (PySem.runOwn c' env) P n s₀ s := (GW.run h).onRaise
theorem GW.for_ {t it : Expr} {body orelse : List Stmt} {pos : Pos} {P : Nat → Shared → Flow → Shared → Prop} (hs : ∀ x, foldedSetIterable it env x = Pure.pure x)
    (h : wpAny M (A.over c fs) (eval it env) (fun x s1 => wpAny M (A.over c fs) (pyIter x) (fun i s2 => GC M A R Y (.forLoop t i body orelse env) c fs P n s₀ s2) (fun _ _ => False) s1) (fun _ _ => False) s) :
    GW M A R Y c fs (exec (.For t it body orelse pos) env) P n s₀ s := by
  rw [exec_For]
  refine GW.bindW (wpAny_standAt (GW.bindW (wpAny_mono h (fun x s1 q => ?_) fun _ _ f => f)))
  rw [hs]
  refine GW.bindW (wpAny_pure (GW.bindW (wpAny_standAt (GW.bindW (wpAny_holding (wpAny_mono q (fun i s2 r => ?_) fun _ _ f => f))))))
  exact GW.runOwn r
theorem GW.while_ {t : Expr} {body orelse : List Stmt} {pos : Pos} {P : Nat → Shared → Flow → Shared → Prop} (h : GC M A R Y (.whileLoop t body orelse env) c fs P n s₀ s) : GW M A R Y c fs (exec (.While t body orelse pos) env) P n s₀ s := by
  rw [exec_While]
  exact GW.bindW (wpAny_standAt (GW.runOwn h))
end

section
variable {prog : Program} {w : World} {A : Around} {R : GenEnd} {Y : Protocol} {c : Code} {fs : List Frame} {n : Nat} {s₀ s : Shared} {env : Env}
theorem GC.for_ {t : Expr} {it : Value} {body orelse : List Stmt} {P : Nat → Shared → Flow → Shared → Prop}
    (h : ∀ fr, Waits c fr → wpAny (model prog w) (A.over (.forLoop t it body orelse env) (fr :: fs)) (pyNext it) (fun r s1 => match r with
      | none => GC (model prog w) A R Y (.block orelse env) c fs P n s₀ s1
      | some v => wpAny (model prog w) (A.over (.forLoop t it body orelse env) (fr :: fs)) (letOwnedTupleGo t it v) (fun _ s2 => wpAny (model prog w) (A.over (.forLoop t it body orelse env) (fr :: fs)) (assign t env v) (fun _ s3 =>
          GW (model prog w) A R Y (.forLoop t it body orelse env) (fr :: fs) (execs body env) (fun n s₀ f s => match f with
            | .next | .cont => GC (model prog w) A R Y (.forLoop t it body orelse env) c fs P n s₀ s
            | .brk => P n s₀ .next s
            | .ret v => P n s₀ (.ret v) s) n s₀ s3) (fun _ _ => False) s2) (fun _ _ => False) s1) (fun _ _ => False) s) :
    GC (model prog w) A R Y (.forLoop t it body orelse env) c fs P n s₀ s := by
  refine GC.of (m := (forTurn t it body orelse env).onRaise (fun x => do noteFrame x env; theTreesLotGoes x)) rfl fun fr hw => GW.onRaise ?_
  simp only [forTurn]
  refine GW.bindW (wpAny_standAt (GW.bindW (wpAny_onRaise (wpAny_mono (h fr hw) (fun r s1 q => ?_) fun _ _ f => f.elim))))
  cases r with
  | none => exact GW.pure (a := Fin.again _) ⟨rfl, q⟩
  | some v =>
    refine GW.bindW (wpAny_mono q (fun _ s2 q => GW.bindW (wpAny_mono q (fun _ s3 q => GW.bind (q.mono fun n s₀ f s p => ?_)) fun _ _ f => f)) fun _ _ f => f)
    cases f with
    | next => exact GW.pure (a := Fin.again _) ⟨rfl, p⟩
    | cont => exact GW.pure (a := Fin.again _) ⟨rfl, p⟩
    | brk => exact GW.pure (a := Fin.done _) p
    | ret v => exact GW.pure (a := Fin.done _) p
theorem GC.block {ss : List Stmt} {P : Nat → Shared → Flow → Shared → Prop} (h : ∀ fr, Waits c fr → GW (model prog w) A R Y (.block ss env) (fr :: fs) (execs ss env) P n s₀ s) : GC (model prog w) A R Y (.block ss env) c fs P n s₀ s := by
  refine GC.of (m := (do return .done (← (execs ss env).onRaise (fun x => do noteFrame x env; theTreesLotGoes x)))) rfl fun fr hw => GW.bind ((h fr hw).onRaise.mono fun n s₀ f s q => ?_)
  exact GW.pure (a := Fin.done _) q
theorem GC.while_ {t : Expr} {body orelse : List Stmt} {P : Nat → Shared → Flow → Shared → Prop}
    (h : ∀ fr, Waits c fr → wpAny (model prog w) (A.over (.whileLoop t body orelse env) (fr :: fs)) (isTrue t env (eval t env)) (fun b s1 => b = true ∧
          GW (model prog w) A R Y (.whileLoop t body orelse env) (fr :: fs) (execs body env) (fun n s₀ f s => match f with
            | .next | .cont => GC (model prog w) A R Y (.whileLoop t body orelse env) c fs P n s₀ s
            | .brk => P n s₀ .next s
            | .ret v => P n s₀ (.ret v) s) n s₀ s1) (fun _ _ => False) s) :
    GC (model prog w) A R Y (.whileLoop t body orelse env) c fs P n s₀ s := by
  refine GC.of (m := (whileTurn t body orelse env).onRaise (fun x => do noteFrame x env; theTreesLotGoes x)) rfl fun fr hw => GW.onRaise ?_
  simp only [whileTurn]
  refine GW.bindW (wpAny_mono (h fr hw) (fun b s1 q => ?_) fun _ _ f => f)
  obtain ⟨rfl, q⟩ := q
  rw [if_pos rfl]
  refine GW.bind (q.mono fun n s₀ f s p => ?_)
  cases f with
  | next => exact GW.pure (a := Fin.again _) ⟨rfl, p⟩
  | cont => exact GW.pure (a := Fin.again _) ⟨rfl, p⟩
  | brk => exact GW.pure (a := Fin.done _) p
  | ret v => exact GW.pure (a := Fin.done _) p
/-- a generator that begins -/
theorem seg_begin {body : List Stmt} (h : GW (model prog w) A R Y (.func body env) [] (execs body env) (fun n s₀ f s => (∀ v, f = .ret v → v = .none) ∧ R n s₀ (.ok (.ret .none)) s) n s₀ s) :
    Seg (model prog w) A R Y n s₀ (.func body env) ((model prog w).den (.func body env)) [] s := by
  refine seg_func (h _ _ _ _ rfl fun n' s₀' f s' q => ?_)
  cases f with
  | ret v => rw [q.1 v rfl]; exact seg_end (.ok (.ret .none)) q.2
  | _ => exact seg_end (.ok (.ret .none)) q.2
end

/-! the widest ground -/
def Amax (n : Nat) : Around := { handled := none, depth := 999 - n, frames := none, guards := none, units := 9799 - 8 * n }
theorem In_max {n : Nat} {A : Around} (ok : OkA n A) {Γ : Ctx} (h : Γ.In A) : Γ.In (Amax n) := by
  obtain ⟨h1, h2, h3, h4, h5⟩ := h
  obtain ⟨o1, o2, o3⟩ := ok
  refine And.intro (h1.trans o1) (And.intro ?_ (And.intro ?_ (And.intro ?_ ?_)))
  · show frameCount Γ.below + Γ.code.weight ≤ 999 - n; omega
  · intro l e
    have e : (none : Option (List Env)) = some l := e
    cases e
  · intro l e
    have e : (none : Option (List Code)) = some l := e
    cases e
  · show Γ.units ≤ 9799 - 8 * n; omega
theorem wpAny_max {α : Type} {M : Model} {n : Nat} {A : Around} (ok : OkA n A) {m : Sem α} {Q : α → Shared → Prop} {E : Value → Shared → Prop} {s : Shared} (h : wpAny M (Amax n) m Q E s) : wpAny M A m Q E s :=
  fun Γ p hΓ => h Γ p (In_max ok hΓ)
end Mine
namespace Mine

section
variable {prog : Program} {w : World} {A : Around} {E : Value → Shared → Prop} {s : Shared}
/-- a generator of a def is asked for its next; its state stays bare -/
theorem pyNext_defgen {a : Addr} {g n : Nat} {gs : GenState} {P : Nat → Shared → Shared → Prop} {Y : Protocol} {Q : Option Value → Shared → Prop} (hh : A.handled = none)
    (hl : s.heap.NoLimit) (hroom : A.depth < recursionLimit) (hg : s.heap.IsGen a g) (hgs : s.gens[g]? = some gs)
    (hgo : gs.Goes (model prog w) A.in1 (fun n s₀ r s₁ => r = .ok (.ret .none) ∧ P n s₀ s₁) Y n (.send .none) (s.setGen g .running))
    (hY : ∀ v s₁ gs', gs'.bare = true → Y (n - 1) (s.setGen g .running) v s₁ (fun r' s'' => match n with
        | 0 => False
        | m + 1 => gs'.Goes (model prog w) A.in1 (fun n s₀ r s₁ => r = .ok (.ret .none) ∧ P n s₀ s₁) Y m r' s'') → Q (some v) (s₁.setGen g gs'))
    (hP : ∀ s₁, P n (s.setGen g .running) s₁ → ∀ h', (∀ b o, s₁.heap.get? b = some o → h'.get? b = some o) → Q none { s₁.setGen g .finished with heap := h' }) :
    wpAny (model prog w) A (pyNext (.ref a)) Q E s := by
  unfold pyNext
  refine wpAny_bind (wpAny_attempt (wpAny_callSpecial?_slot (name := Str.ofString "__next__") hg.typeIs slot_gen_next
    (wpAny_call_entry slot_gen_next hg.typeIs entry_gen_next ?_ (args_gen_next _))))
  show wpAny _ A.in1 (Builtin.Generator.genWake (.ref a) (.send .none)) _ _ s
  unfold Builtin.Generator.genWake
  refine wpAny_bind (wpAny_holding (wpAny_genNumber hg (wpAny_bind (wpAny_genState hgs ?_))))
  cases gs with
  | running => exact hgo.elim
  | finished => exact hgo.elim
  | _ =>
    refine wpAny_bind (wpAny_roomToWake hl hroom ?_)
    show wpAny _ A.in1 (.resume g (.send .none) [] _) _ _ s
    refine wpAny_resumeQ hgs hgo (fun x s₁ hx => ?_) (fun v s₁ gs' hb hv => ?_)
    · obtain ⟨rfl, hp⟩ := hx
      show wpAny _ A.in1 (newExc (.type "StopIteration") [] >>= _) _ _ _
      refine wpAny_bind ?_
      simp only [newExc, newTuple]
      refine wpAny_bind (wpAny_newObj_type ?_ (by size_fits))
      refine wpAny_bind (m := firstArgMember _ _) (wpAny_of_eq (a := Value.none) (by first | rfl | (simp only [firstArgMember]; rfl)) ?_)
      refine wpAny_newObj_type ?_ (by size_fits)
      simp only [raiseNew]
      refine wpAny_bind (wpAny_bind (wpAny_handled ?_))
      first | rw [show A.in1.handled = none from hh] | rw [hh]
      refine wpAny_throw ?_
      refine wpAny_bind (wpAny_isInstance (T := "StopIteration") (b := true) ⟨_, Heap.get?_push_size _ rfl, rfl⟩ isSubtype_stop ?_)
      exact wpAny_pure (hP s₁ hp _ fun b o hb => Heap.get?_push_of_some _ (Heap.get?_push_of_some _ hb))
    · exact wpAny_pure ⟨v, rfl, wpAny_pure (hY v s₁ gs' hb hv)⟩
end

theorem ExtG.setGen (s : Shared) (g : Nat) (x : GenState) (hb : x.bare = true) : ExtG no (fun k => k = g) s (s.setGen g x) where
  keep := fun _ _ _ e => e
  gsize := by simp [Shared.setGen]
  gens := fun k y hk e => by
    show (s.gens.setIfInBounds g x)[k]? = _
    rw [Array.getElem?_setIfInBounds_ne (Ne.symm hk)]; exact e
  os := rfl
  bare := fun h y hy => by
    have hy : y ∈ s.gens.setIfInBounds g x := hy
    rcases Array.mem_or_eq_of_mem_setIfInBounds hy with h' | rfl
    · exact h y h'
    · exact hb
theorem setGen_get {s : Shared} {g : Nat} {x : GenState} (h : g < s.gens.size) : (s.setGen g x).gens[g]? = some x := by
  simp [Shared.setGen, h]

def YP (G : Gc) (ends : Bool) (xs : List PV) (ZI wr : Addr → Prop) : Protocol := fun m s₀ v s kap =>
  ExtG wr no s₀ s ∧ (∃ x Z', xs[xs.length - 1 - m]? = some x ∧ Rep Z' s.heap x v ∧ (∀ b, Z' b → ZI b ∨ s₀.heap.get? b = none) ∧ Liv Z' s.heap ∧ (∀ b, Z' b → ¬ wr b)) ∧ Liv wr s.heap ∧
  (ends = true ∨ m ≠ 0 → ∀ s'', (∀ b o, ZI b ∨ wr b → s.heap.get? b = some o → s''.heap.get? b = some o) → Bs G s'' → kap (.send .none) s'')
def RP (wr : Addr → Prop) : GenEnd := fun n s₀ r s => r = .ok (.ret .none) ∧ (n = 0 ∧ ExtG wr no s₀ s)

section
variable {G : Gc} {n g : Nat} {I : Addr} {ends : Bool} {xs : List PV} {ZI wr : Addr → Prop}

theorem Bs.keeps {s s' : Shared} {H : Nat → Prop} (b : Bs G s) (e : ExtG wr H s s') (h : ∀ b, wr b → G.base.get? b = none) : Bs G s' :=
  ⟨fun a o q => e.keep a o (fun w => by rw [h a w] at q; cases q) (b.base a o q), e.bare b.bare⟩

/-- one step of a generator -/
theorem gen_next {k : Nat} {gs : GenState} {s' : Shared} {Q : Option Value → Shared → Prop} {E : Value → Shared → Prop} (hn : n ≤ 999) (hI : s'.heap.IsGen I g) (hgs : s'.gens[g]? = some gs) (bs : Bs G s') (hb : ∀ b, wr b → G.base.get? b = none)
    (hgo : gs.Goes (model G.prog G.w) (Amax n).in1 (RP wr) (YP G ends xs ZI wr) k (.send .none) (s'.setGen g .running)) (hne : ends = true ∨ k ≠ 0)
    (hsome : ∀ v s₁ gs' m, k = m + 1 → gs'.bare = true → YP G ends xs ZI wr m (s'.setGen g .running) v s₁ (fun r s'' => gs'.Goes (model G.prog G.w) (Amax n).in1 (RP wr) (YP G ends xs ZI wr) m r s'') → Q (some v) (s₁.setGen g gs'))
    (hnone : k = 0 → ∀ s'', ExtG wr (fun x => x = g) s' s'' → Q none s'') : wpAny (model G.prog G.w) (Amax n) (pyNext (.ref I)) Q E s' := by
  have e0 := ExtG.setGen s' g .running rfl
  refine pyNext_defgen (P := fun n s₀ s => n = 0 ∧ ExtG wr no s₀ s) (Y := YP G ends xs ZI wr) (n := k) rfl (G.top.nolimit.keeps bs.base) (by show 999 - n < 1000; omega) hI hgs hgo (fun v s₁ gs' hbr hy => ?_) (fun s₁ hp h' hk => ?_)
  · cases k with
    | zero =>
      have he : ends = true := hne.elim id fun h => absurd rfl h
      obtain ⟨q1, q2, q3, q4⟩ := hy
      have b0 : Bs G (s'.setGen g .running) := ⟨bs.base, e0.bare bs.bare⟩
      exact (q4 (.inl he) s₁ (fun _ _ _ e => e) (b0.keeps q1 hb)).elim
    | succ m => exact hsome v s₁ gs' m rfl hbr hy
  · obtain ⟨h0, e1⟩ := hp
    refine hnone h0 _ ?_
    have e01 : ExtG wr (fun x => x = g) s' s₁ := (e0.wide (fun _ h => h.elim) (fun _ h => .inl h)).trans e1 (fun b w => .inl w) (fun _ h => h.elim)
    have e2 := ExtG.setGen s₁ g .finished rfl
    have e3 : ExtG no no (s₁.setGen g .finished) { s₁.setGen g .finished with heap := h' } := Ext0.heap (tk := s₁.toks) hk
    exact (e01.trans e2 (fun _ h => h.elim) (fun _ h => .inl h)).trans e3 (fun _ h => h.elim) (fun _ h => h.elim)

structure GFix (G : Gc) (n : Nat) (I : Addr) (g : Nat) (ZI wr Z : Addr → Prop) (s : Shared) : Prop where
  notI : ¬ wr I
  live : Liv wr s.heap
  apart : ∀ b, Z b → ¬ wr b
  apartI : ¬ Z I
  zi : ∀ b, ZI b → Z b
  glt : g < s.gens.size
  dead : ∀ b, wr b → G.base.get? b = none
  deadI : G.base.get? I = none
  isg : s.heap.IsGen I g
theorem GFix.its {Z : Addr → Prop} {s : Shared} (x : GFix G n I g ZI wr Z s) : ItS G n I Z (fun b => wr b ∨ b = I) (fun k => k = g) s where
  mem := .inr rfl
  live := fun b w => w.elim (x.live b) fun e => let ⟨o, _, _, q, _⟩ := x.isg; ⟨o, e ▸ q⟩
  apart := fun b z w => w.elim (x.apart b z) fun e => x.apartI (e ▸ z)
  glt := fun k h => h ▸ x.glt
  plain := let ⟨o, _, _, e, c, _⟩ := x.isg; ⟨o, "generator", e, c, by decide⟩
  self := fun s' k A Q E ok h => by
    obtain ⟨o, nm, qn, e, r⟩ := x.isg
    exact wpAny_pyIter_gen ⟨o, nm, qn, k.keep I o (.inr (.inr rfl)) e, r⟩ h
theorem Kp.narrow {Z : Addr → Prop} {gs : Nat → Prop} {s s' : Shared} (k : Kp G Z (fun b => wr b ∨ b = I) gs s s') (hz : ∀ b, ZI b → Z b) : ∀ b o, ZI b ∨ wr b → s.heap.get? b = some o → s'.heap.get? b = some o :=
  fun b o h e => k.keep b o (h.elim (fun z => .inl (hz b z)) fun w => .inr (.inl w)) e

/-- what a step leaves, for those who ask -/
theorem gen_step {k : Nat} {gs' : GenState} {v : Value} {s' s₁ : Shared} {Z Zc : Addr → Prop} {x : PV} {Q : Option Value → Shared → Prop} (hg : g < s'.gens.size) (hI : s'.heap.IsGen I g) (hbr : gs'.bare = true)
    (hy : YP G ends xs ZI wr k (s'.setGen g .running) v s₁ (fun r s'' => gs'.Goes (model G.prog G.w) (Amax n).in1 (RP wr) (YP G ends xs ZI wr) k r s'')) (hx : xs[xs.length - 1 - k]? = some x)
    (hnI : ¬ wr I) (hzc : ∀ b, ZI b → Zc b) (hzw : ∀ b, Zc b → ¬ (wr b ∨ b = I)) (lv : Liv Zc s'.heap) (hd : ∀ b, wr b → G.base.get? b = none) (hdI : G.base.get? I = none)
    (hQ : ∀ Z'', ExtG (fun b => wr b ∨ b = I) (fun x => x = g) s' (s₁.setGen g gs') → ZG Zc s' Z'' (s₁.setGen g gs') → Rep Z'' (s₁.setGen g gs').heap x v → GFix G n I g ZI wr Z'' (s₁.setGen g gs') →
      (ends = true ∨ k ≠ 0 → ∃ gs, (s₁.setGen g gs').gens[g]? = some gs ∧ ∀ s'', (∀ b o, ZI b ∨ wr b → (s₁.setGen g gs').heap.get? b = some o → s''.heap.get? b = some o) → Bs G s'' → gs.Goes (model G.prog G.w) (Amax n).in1 (RP wr) (YP G ends xs ZI wr) k (.send .none) s'') → Q (some v) (s₁.setGen g gs')) :
    Q (some v) (s₁.setGen g gs') := by
  obtain ⟨q1, ⟨x', Z', hx', hr, hz', lz', az'⟩, q3, q4⟩ := hy
  rw [hx] at hx'
  cases hx'
  have e0 := ExtG.setGen s' g .running rfl
  have e1 : ExtG wr (fun x => x = g) s' s₁ := (e0.wide (fun _ h => h.elim) (fun _ h => .inl h)).trans q1 (fun b w => .inl w) (fun _ h => h.elim)
  have e2 : ExtG wr (fun x => x = g) s' (s₁.setGen g gs') := e1.trans (ExtG.setGen s₁ g gs' hbr) (fun _ h => h.elim) (fun _ h => .inl h)
  obtain ⟨o, nm, qn, e, r⟩ := hI
  have zI : ∀ b, Z' b → b ≠ I := fun b z q => by
    subst q
    rcases hz' b z with z | d
    · exact hzw b (hzc b z) (.inr rfl)
    · have d : s'.heap.get? b = none := d
      rw [d] at e; cases e
  have hzw' : ∀ b, Zc b → ¬ wr b := fun b z w => hzw b z (.inl w)
  refine hQ (fun b => Zc b ∨ Z' b) (e2.wide (fun b w => .inl (.inl w)) (fun _ h => .inl h)) ⟨fun b z => .inl z, fun b z => z.elim .inl fun z => (hz' b z).elim (fun z => .inl (hzc b z)) .inr, fun b z => z.elim (fun z => let ⟨o, q⟩ := lv b z; ⟨o, e2.keep b o (hzw' b z) q⟩) (lz' b)⟩ (hr.mono (fun _ z => .inr z) fun _ _ _ e => e) ?_ ?_
  · exact { notI := hnI, live := q3, apart := fun b z => z.elim (hzw' b) (az' b), apartI := fun z => z.elim (fun z => hzw I z (.inr rfl)) fun z => zI I z rfl, zi := fun b z => .inl (hzc b z), glt := Nat.lt_of_lt_of_le hg e2.gsize, dead := hd, deadI := hdI, isg := ⟨o, nm, qn, e2.keep I o hnI e, r⟩ }
  · intro hne
    exact ⟨gs', setGen_get (Nat.lt_of_lt_of_le hg e1.gsize), fun s'' hk' hbs => q4 hne s'' hk' hbs⟩

theorem gen_tail (hn : n ≤ 999) : ∀ (k : Nat) (ys : List PV) (Z : Addr → Prop) (s : Shared), ys = xs.drop (xs.length - k) → k ≤ xs.length → GFix G n I g ZI wr Z s →
    (ends = true ∨ k ≠ 0 → ∃ gs, s.gens[g]? = some gs ∧ ∀ s'', (∀ b o, ZI b ∨ wr b → s.heap.get? b = some o → s''.heap.get? b = some o) → Bs G s'' → gs.Goes (model G.prog G.w) (Amax n).in1 (RP wr) (YP G ends xs ZI wr) k (.send .none) s'') →
    ItAt G n ends I (fun x => x = g) ys Z (fun b => wr b ∨ b = I) s := by
  intro k
  induction k with
  | zero =>
    intro ys Z s hys hk fx hgo
    rw [Nat.sub_zero, List.drop_length] at hys
    subst hys
    unfold ItAt
    refine ⟨fx.its, fun s' kp he A Q E ok h => wpAny_max ok ?_⟩
    obtain ⟨gs, hgs, hgo⟩ := hgo (.inl he)
    obtain ⟨o, nm, qn, e, r⟩ := fx.isg
    have hgo' := hgo (s'.setGen g .running) (kp.narrow fx.zi) ⟨kp.bs.base, (ExtG.setGen s' g .running rfl).bare kp.bs.bare⟩
    exact gen_next hn ⟨o, nm, qn, kp.keep I o (.inr (.inr rfl)) e, r⟩ ((kp.gens g rfl).trans hgs) kp.bs fx.dead hgo' (.inl he) (fun v s₁ gs' m hm => by cases hm) fun _ s'' e => h s'' (e.wide (fun b w => .inl (.inl w)) (fun _ h => .inl h))
  | succ k ih =>
    intro ys Z s hys hk fx hgo
    have hlt : xs.length - (k + 1) < xs.length := by omega
    rw [List.drop_eq_getElem_cons hlt] at hys
    subst hys
    unfold ItAt
    refine ⟨fx.its, fun s' Zc kp hzc hzw lv A Q E ok h => wpAny_max ok ?_⟩
    obtain ⟨gs, hgs, hgo⟩ := hgo (.inr (Nat.succ_ne_zero k))
    obtain ⟨o, nm, qn, e, r⟩ := fx.isg
    have hI : s'.heap.IsGen I g := ⟨o, nm, qn, kp.keep I o (.inr (.inr rfl)) e, r⟩
    have hgo' := hgo (s'.setGen g .running) (kp.narrow fx.zi) ⟨kp.bs.base, (ExtG.setGen s' g .running rfl).bare kp.bs.bare⟩
    have hgs' := (kp.gens g rfl).trans hgs
    have hglt : g < s'.gens.size := by
      rcases Nat.lt_or_ge g s'.gens.size with q | q
      · exact q
      · rw [Array.getElem?_eq_none q] at hgs'; cases hgs'
    refine gen_next hn hI hgs' kp.bs fx.dead hgo' (.inr (Nat.succ_ne_zero k)) (fun v s₁ gs' m hm hbr hy => ?_) fun h0 => by cases h0
    cases hm
    refine gen_step (Z := Z) (x := xs[xs.length - (k + 1)]) hglt hI hbr hy ?_ fx.notI (fun b z => hzc b (fx.zi b z)) hzw lv fx.dead fx.deadI fun Z'' e2 zg hr fx' hgo'' => ?_
    · rw [show xs.length - 1 - k = xs.length - (k + 1) by omega]; exact List.getElem?_eq_getElem hlt
    · exact h v _ Z'' (fun b => wr b ∨ b = I) e2 zg hr (ih _ _ _ (by congr 1; omega) (by omega) fx' hgo'') fun b w => .inl w
end
end Mine
namespace Mine

theorem bindL_rev {κ : Str → Option NameKind} {y : Str} : ∀ (b : List (Str × Value)) (m : Str → Option Value), (∀ q ∈ b, κ q.1 = some .local) → (b.map (·.1)).Nodup → bindL κ b m y = (b.reverse.lookup y).or (m y)
  | [], m, _, _ => by simp [bindL]
  | (k, w) :: b, m, hq, hnd => by
    simp only [List.map_cons, List.nodup_cons] at hnd
    have h1 : κ k = some .local := hq (k, w) (.head _)
    unfold bindL
    rw [bindL_rev b _ (fun q h => hq q (.tail _ h)) hnd.2, List.reverse_cons, if_pos h1]
    by_cases e : y = k
    · subst e
      have : b.reverse.lookup y = none := by
        rw [List.lookup_eq_none_iff]
        intro p hp
        have := List.mem_reverse.mp hp
        simp only [beq_eq_false_iff_ne, Bool.not_eq_true, bne_iff_ne]
        intro e
        exact hnd.1 (e ▸ List.mem_map_of_mem this)
      rw [List.lookup_append, this]
      simp
    · rw [List.lookup_append, if_neg e]
      simp [List.lookup, beq_eq_false_iff_ne.mpr e]
def wr1 (k1 : Nat) (wp : Addr → Prop) (s : Shared) : Addr → Prop := fun b => wp b ∨ (s.heap.objs.size ≤ b ∧ b < s.heap.objs.size + k1)

section
variable {G : Gc} {n g k1 : Nat} {I : Addr} {ends : Bool} {xs : List PV} {ZI wp : Addr → Prop}
theorem wr1_wide {s : Shared} {b : Addr} (h : wr1 k1 wp s b) : wp b ∨ s.heap.get? b = none := h.imp id fun h => absent_of_le h.1
theorem live_lt {h : Heap} {b : Addr} (l : ∃ o, h.get? b = some o) : b < h.objs.size := let ⟨_, e⟩ := l; Heap.lt_size e

theorem gen_start {Z : Addr → Prop} {s : Shared} {c : Code} (hn : n ≤ 999) (fx : GFix G n I g ZI wp Z s) (hgs : s.gens[g]? = some (.fresh c))
    (hstart : ∀ s', (∀ b o, ZI b ∨ wp b → s.heap.get? b = some o → s'.heap.get? b = some o) → Bs G s' → Seg (model G.prog G.w) (Amax n).in1 (RP (wr1 k1 wp s')) (YP G ends xs ZI (wr1 k1 wp s')) xs.length s' c ((model G.prog G.w).den c) [] s') :
    ItAt G n ends I (fun x => x = g) xs Z (fun b => wp b ∨ b = I) s := by
  have dead1 : ∀ s' : Shared, Bs G s' → ∀ b, wr1 k1 wp s' b → G.base.get? b = none := fun s' bs b h => h.elim (fx.dead b) fun h => by
    cases e : G.base.get? b with
    | none => rfl
    | some o => exact absurd (Heap.lt_size (bs.base b o e)) (Nat.not_lt.mpr h.1)
  cases xs with
  | nil =>
    unfold ItAt
    refine ⟨fx.its, fun s' kp he A Q E ok h => wpAny_max ok ?_⟩
    obtain ⟨o, nm, qn, e, r⟩ := fx.isg
    refine gen_next (wr := wr1 k1 wp s') (xs := []) (ZI := ZI) hn ⟨o, nm, qn, kp.keep I o (.inr (.inr rfl)) e, r⟩ ((kp.gens g rfl).trans hgs) kp.bs (dead1 s' kp.bs) (k := 0)
      (And.intro rfl (hstart (s'.setGen g .running) (kp.narrow fx.zi) ⟨kp.bs.base, (ExtG.setGen s' g .running rfl).bare kp.bs.bare⟩)) (.inl he) (fun v s₁ gs' m hm => by cases hm) fun _ s'' e => h s'' (e.wide (fun b w => (wr1_wide w).imp .inl id) (fun _ h => .inl h))
  | cons x ys =>
    unfold ItAt
    refine ⟨fx.its, fun s' Zc kp hzc hzw lv A Q E ok h => wpAny_max ok ?_⟩
    obtain ⟨o, nm, qn, e, r⟩ := fx.isg
    have hI : s'.heap.IsGen I g := ⟨o, nm, qn, kp.keep I o (.inr (.inr rfl)) e, r⟩
    have hIlt : I < s'.heap.objs.size := let ⟨o, _, _, q, _⟩ := hI; Heap.lt_size q
    have hgs' := (kp.gens g rfl).trans hgs
    have hglt : g < s'.gens.size := by
      rcases Nat.lt_or_ge g s'.gens.size with q | q
      · exact q
      · rw [Array.getElem?_eq_none q] at hgs'; cases hgs'
    have hnI : ¬ wr1 k1 wp s' I := fun h => h.elim fx.notI fun h => absurd hIlt (Nat.not_lt.mpr h.1)
    refine gen_next (wr := wr1 k1 wp s') (xs := x :: ys) (ZI := ZI) (ends := ends) (k := (x :: ys).length) hn hI hgs' kp.bs (dead1 s' kp.bs) (And.intro rfl (hstart (s'.setGen g .running) (kp.narrow fx.zi) ⟨kp.bs.base, (ExtG.setGen s' g .running rfl).bare kp.bs.bare⟩))
      (.inr (by simp)) (fun v s₁ gs' m hm hbr hy => ?_) fun h0 => by simp at h0
    have hm : m = ys.length := by simp at hm; omega
    subst hm
    refine gen_step (Z := Z) (Zc := Zc) (x := x) hglt hI hbr hy (by simp) hnI (fun b z => hzc b (fx.zi b z)) (fun b z w => ?_) lv (dead1 s' kp.bs) fx.deadI fun Z'' e2 zg hr fx' hgo'' => ?_
    · rcases w with (w | w) | w
      · exact hzw b z (.inl w)
      · exact absurd (live_lt (lv b z)) (Nat.not_lt.mpr w.1)
      · exact hzw b z (.inr w)
    · refine h v _ Z'' (fun b => wr1 k1 wp s' b ∨ b = I) (e2.wide (fun b w => w.elim (fun w => (wr1_wide w).imp .inl id) fun w => .inl (.inr w)) (fun _ h => .inl h)) zg hr
        (gen_tail hn ys.length ys _ _ (by simp) (by simp) fx' hgo'') fun b w => w.elim (fun w => (wr1_wide w).imp .inl id) fun w => .inl (.inr w)

/-- what is asked of a generator's body -/
def GSpec (G : Gc) (n k1 : Nat) (d : DefRec) (σ : Loc) (xs : List PV) (ends : Bool) : Prop :=
  ∀ (F : Fi) (Z : Addr → Prop) (s : Shared), F.sc = d.scope → F.own = true → F.h0 = G.base → F.Z0 = Z → St G F Z (fun b => b = F.L) σ s →
    GW (model G.prog G.w) (Amax n).in1 (RP (wr1 k1 (fun b => b = F.L) s)) (YP G ends xs Z (wr1 k1 (fun b => b = F.L) s)) (.func d.body F.env) [] (execs d.body F.env)
      (fun n s₀ f s' => (∀ v, f = .ret v → v = .none) ∧ RP (wr1 k1 (fun b => b = F.L) s) n s₀ (.ok (.ret .none)) s') xs.length s s

/-- a generator of a def is made -/
theorem gen_made {sc : Scope} {σ : Loc} {x : Str} {d : DefRec} {e : Expr} {es : List Expr} {vs : List PV} {ns : List Str} {p pos : Pos} (hd : (x == ("__debug__" : Str)) = false)
    (hk : sc.names.lookup x = some .globalImplicit) (h1 : EvL G n sc σ (e :: es) vs) (hm : d ∈ recsOf G.p) (hx : d.name = x)
    (he : ∀ env pos, backTo pos (starEach (e :: es) env) = (false, eval e env) :: backTo pos (starEach es env))
    (hb : ∀ pm code doc ws, ws.length = vs.length → bindArgs (Calls.docDef d.name d.params d.body d.scope pm code doc) ⟨ws, []⟩ = pure (ns.zip ws))
    (hnd : ns.Nodup) (hl : ∀ y ∈ ns, d.scope.names.lookup y = some .local) (hcell : ∀ y ∈ d.scope.names, y.2 ≠ .cell)
    (hkind : d.scope.kind = .function) (hco : d.scope.isCoroutine = false) (hgen : d.scope.isGenerator = true)
    {F : Fi} {A : Around} {Z W : Addr → Prop} {s : Shared} {Q : Value → Shared → Prop} {E : Value → Shared → Prop} (hsc : F.sc = sc) (ok : OkA n A) (st : St G F Z W σ s)
    (h : ∀ I g Fg s3 Z1, Ext0 s s3 → ZG Z s Z1 s3 → s3.heap.IsGen I g → s3.gens[g]? = some (.fresh (.func d.body Fg.env)) → s.gens.size ≤ g → s.heap.get? I = none → s.heap.get? Fg.L = none → I ≠ Fg.L → ¬ Z1 I → Fg.h0 = G.base → Fg.Z0 = Z1 → Fg.sc = d.scope → Fg.own = true → Fg.fr = some Fg.L →
      (∃ o, s3.heap.get? Fg.L = some o) →
      (∀ s', (∀ b o, Z1 b ∨ b = Fg.L → s3.heap.get? b = some o → s'.heap.get? b = some o) → Bs G s' → St G Fg Z1 (fun b => b = Fg.L) (slots ns vs) s') → Q (.ref I) s3) :
    wpAny (model G.prog G.w) A (eval (.Call (.Name x p) (e :: es) [] pos) F.env) (fun x s1 => wpAny (model G.prog G.w) A (pyIter x) Q E s1) E s := by
  obtain ⟨a, o, pm, code, doc, ha, ho, hdat, hcd⟩ := G.top.fn d hm
  rw [hx] at ha
  refine wpAny_Call_NameR (evGlobal hk ha hd hsc st ?_)
  refine Calls.callWith_function (o := o) (fd := Calls.docDef d.name d.params d.body d.scope pm code doc) ?_
  rw [he]
  refine Calls.evalArgs_plain ?_
  rw [← he]
  refine h1.run F A Z W s _ _ pos hsc ok st fun us s1 Z1 e1 z1 r1 => ?_
  have st1 := st.ext e1 z1
  refine ⟨⟨e1.keep' _ _ (st.base _ _ ho), hdat⟩, ?_⟩
  have hlen := r1.length
  have hnd' : ((ns.zip us).map (·.1)).Nodup := hnd.sublist (zip_fst_sub ns us)
  refine wpAny_call (codeAny_call_generator (body := d.body) (by show A.depth < 1000; have := ok.2.1; omega) (st1.base _ _ ho) hdat hco hgen rfl (hcd.keeps st1.base) ?_)
  refine wpAny_of_eq (hb pm code doc us hlen) (wpAny_newFunctionEnv hcell (fun y hy => hl _ (List.of_mem_zip hy).1) (fun h2 hn2 hs2 => ?_) hkind)
  dsimp only at hn2 hs2 ⊢
  have k2 : ∀ b o, s1.heap.get? b = some o → h2.get? b = some o := fun b o q => (hs2.2 b (Nat.ne_of_lt (Heap.lt_size q))).trans (Heap.get?_push_of_some _ q)
  have base2 : ∀ b o, G.base.get? b = some o → h2.get? b = some o := fun b o q => k2 b o (st1.base b o q)
  refine ⟨(G.top.nolimit.keeps base2 : Heap.NoLimit _), ?_⟩
  let Fg : Fi := { sc := d.scope, L := s1.heap.objs.size, cells := [], q := d.name ++ ".<locals>.", fn := some a, cd := code, fr := some s1.heap.objs.size, own := true, Z0 := Z1, h0 := G.base }
  let o3 : Obj := { cls := .type "generator", data := .fields #[.int s1.gens.size 0, .str d.name (s1.toks + (ns.zip us).length), .str d.name (s1.toks + (ns.zip us).length + 1)] }
  let s3 : Shared := { s1 with gens := s1.gens.push (.fresh (.func d.body Fg.env)), toks := s1.toks + (ns.zip us).length + 1 + 1, heap := h2.push o3 }
  have k3 : ∀ b o, s1.heap.get? b = some o → s3.heap.get? b = some o := fun b o q => Heap.get?_push_of_some _ (k2 b o q)
  have e3 : Ext0 s1 s3 := ⟨fun b o _ q => k3 b o q, by show s1.gens.size ≤ (s1.gens.push _).size; simp, fun g x _ q => by
    show (s1.gens.push _)[g]? = some x
    rw [Array.getElem?_push]
    split
    · rename_i hg; subst hg; rw [Array.getElem?_eq_none (Nat.le_refl _)] at q; cases q
    · exact q, rfl, fun hbare => hbare.push rfl⟩
  have z3 := ZG.same z1.lt e3
  have dL : s1.heap.get? s1.heap.objs.size = none := none_size _
  have hI3 : s3.heap.get? h2.objs.size = some o3 := Heap.get?_push_size _ rfl
  have hL2 : ∃ o, h2.get? s1.heap.objs.size = some o := let ⟨o, _, _, q, _⟩ := hn2; ⟨o, q⟩
  have hLI : s1.heap.objs.size ≠ h2.objs.size := Nat.ne_of_lt (live_lt hL2)
  have dI : s1.heap.get? h2.objs.size = none := by
    cases q : s1.heap.get? h2.objs.size with
    | none => rfl
    | some o => exact absurd (Heap.lt_size (k2 _ _ q)) (Nat.lt_irrefl _)
  have hn3 : s3.heap.Ns s1.heap.objs.size (fun x => (ns.zip us).reverse.lookup x) := hn2.keeps fun b o q => Heap.get?_push_of_some _ q
  have bd : ∀ b, s1.heap.get? b = none → G.base.get? b = none := fun b q => by
    cases e : G.base.get? b with
    | none => rfl
    | some o => rw [st1.base b o e] at q; cases q
  have e13 := e1.trans' e3
  have nst : ∀ s' : Shared, (∀ b o, Z1 b ∨ b = s1.heap.objs.size → s3.heap.get? b = some o → s'.heap.get? b = some o) → Bs G s' → St G Fg Z1 (fun b => b = Fg.L) (slots ns vs) s' := fun s' hk' bs' => {
    b0 := fun _ _ q => q
    hk := bs'.base
    bare := bs'.bare
    zlt := fun b z => let ⟨o, q⟩ := z3.lt b z; ⟨o, hk' b o (.inl z) q⟩
    wlt := fun b q => by
      have q : b = s1.heap.objs.size := q
      subst q; obtain ⟨o, _, _, q, _⟩ := hn3; exact ⟨o, hk' _ o (.inr rfl) q⟩
    wn0 := fun b q => by have q : b = s1.heap.objs.size := q; subst q; exact bd _ dL
    disj := fun b z q => by have q : b = s1.heap.objs.size := q; subst q; exact not_live z1.lt dL z
    z0 := fun b z => .inl z
    z1 := fun b z => z
    LW := rfl
    kind := hkind
    ns := ⟨_, hn3.at' fun o q => hk' _ o (.inr rfl) q⟩
    cells := fun y _ hy => absurd rfl (hcell (y, .cell) (mem_of_lookup hy))
    inj := fun y _ y' c q => by cases q
    ownd := fun _ => rfl
    vals := fun y pv hy => by
      obtain ⟨v, hv, hr⟩ := slots_get r1 hy
      refine ⟨v, .inl ⟨hl y (slots_mem hy), _, hn3.at' fun o q => hk' _ o (.inr rfl) q, ?_⟩, hr.mono (fun _ z => z) fun b o z q => hk' b o (.inl z) (k3 b o q)⟩
      have : (bindL Fg.env.kindOf (ns.zip us) (fun _ => none)) y = some v := bindL_get _ _ hnd' hv (hl y (slots_mem hy))
      rw [← this]
      rw [bindL_rev _ _ (fun q hq => hl _ (List.of_mem_zip hq).1) hnd']
      simp
    owns := ⟨fun _ => (0 : Nat), And.intro (fun y l hy => absurd hy slots_own) (fun y _ l _ hy => absurd hy slots_own)⟩ }
  have hgen3 : s3.heap.IsGen h2.objs.size s1.gens.size := ⟨o3, _, _, hI3, rfl, rfl, rfl⟩
  show wpAny (model G.prog G.w) A (pyIter (.ref h2.objs.size)) Q E s3
  exact wpAny_pyIter_gen hgen3 (h _ s1.gens.size Fg s3 Z1 e13 (z1.trans z3 e1) hgen3 (by show (s1.gens.push _)[s1.gens.size]? = _; simp) e1.gsize (Ext0.dead e1 dI) (Ext0.dead e1 dL) (Ne.symm hLI) (not_live z1.lt dI) rfl rfl rfl rfl rfl (let ⟨o, _, _, q, _⟩ := hn3; ⟨o, q⟩) nst)
theorem EvI.gen {sc : Scope} {σ : Loc} {x : Str} {d : DefRec} {e : Expr} {es : List Expr} {vs : List PV} {ns : List Str} {p pos : Pos} (hn : n ≤ 999) (hd : (x == ("__debug__" : Str)) = false)
    (hk : sc.names.lookup x = some .globalImplicit) (h1 : EvL G n sc σ (e :: es) vs) (hm : d ∈ recsOf G.p) (hx : d.name = x)
    (he : ∀ env pos, backTo pos (starEach (e :: es) env) = (false, eval e env) :: backTo pos (starEach es env))
    (hb : ∀ pm code doc ws, ws.length = vs.length → bindArgs (Calls.docDef d.name d.params d.body d.scope pm code doc) ⟨ws, []⟩ = pure (ns.zip ws))
    (hnd : ns.Nodup) (hl : ∀ y ∈ ns, d.scope.names.lookup y = some .local) (hcell : ∀ y ∈ d.scope.names, y.2 ≠ .cell)
    (hkind : d.scope.kind = .function) (hco : d.scope.isCoroutine = false) (hgen : d.scope.isGenerator = true) (hdot : d.scope.names.lookup (".0" : Str) = none)
    (hs : GSpec G n k1 d (slots ns vs) xs ends) : EvI G n sc σ (.Call (.Name x p) (e :: es) [] pos) xs ends := by
  refine ⟨fun F A Z W s Q E hsc ok st h => ?_⟩
  refine gen_made hd hk h1 hm hx he hb hnd hl hcell hkind hco hgen hsc ok st fun I g Fg s3 Z1 e3 z3 isg hgs hg0 dI dL hIL nzI gh0 gZ0 gsc gown gfr gal gst => ?_
  have bd : ∀ b, s.heap.get? b = none → G.base.get? b = none := fun b q => by
    cases e : G.base.get? b with
    | none => rfl
    | some o => rw [st.base b o e] at q; cases q
  have st3 := st.ext e3 z3
  have g3 := gst s3 (fun _ _ _ e => e) st3.bs
  have fx : GFix G n I g Z1 (fun b => b = Fg.L) Z1 s3 := {
    notI := hIL
    live := fun b q => by have q : b = Fg.L := q; rw [q]; exact gal
    apart := g3.disj
    apartI := nzI
    zi := fun _ z => z
    glt := (Array.getElem?_eq_some_iff.mp hgs).1
    dead := fun b q => by have q : b = Fg.L := q; rw [q]; exact bd _ dL
    deadI := bd _ dI
    isg := isg }
  have it : ItAt G n ends I (fun x => x = g) xs Z1 (fun b => b = Fg.L ∨ b = I) s3 :=
    gen_start (k1 := k1) hn fx (c := .func d.body Fg.env) hgs fun s' hk' bs' => seg_begin (hs Fg Z1 s' gsc gown gh0 gZ0 (gst s' hk' bs'))
  exact h _ s3 Z1 _ _ e3 z3 it (fun b q => q.elim (fun q => q ▸ dL) fun q => q ▸ dI) fun g' q => q ▸ hg0
end
end Mine
namespace Mine

theorem GC.induct {M : Model} {A : Around} {R : GenEnd} {Y : Protocol} {C c : Code} {fs : List Frame} {P : Nat → Shared → Flow → Shared → Prop} (Inv : Nat → Nat → Shared → Shared → Prop)
    (step : ∀ k n s₀ s, Inv k n s₀ s → (∀ k' n' s₀' s', k' < k → Inv k' n' s₀' s' → GC M A R Y C c fs P n' s₀' s') → GC M A R Y C c fs P n s₀ s) {k n : Nat} {s₀ s : Shared} (h : Inv k n s₀ s) : GC M A R Y C c fs P n s₀ s := by
  induction k using Nat.strongRecOn generalizing n s₀ s with
  | ind k ih => exact step k n s₀ s h fun k' n' s₀' s' hk h' => ih k' hk h'

def allScal (σ : Loc) : Bool := σ.all fun p => match p.2 with
  | .val pv => scal pv
  | .own _ => false
theorem allScal.get {σ : Loc} (h : allScal σ = true) : ∀ y sl, σ.lookup y = some sl → ∃ pv, sl = .val pv ∧ scal pv = true := fun y sl hy => by
  have := List.all_eq_true.mp h _ (mem_of_lookup hy)
  cases sl with
  | val pv => exact ⟨pv, rfl, this⟩
  | own xs => cases this

section
variable {G : Gc} {F : Fi} {Z W : Addr → Prop} {σ : Loc} {s : Shared}
theorem VarAt.wake {s'' : Shared} {y : Str} {v : Value} (st : St G F Z W σ s) (ho : F.own = true) (hk : ∀ b o, W b → s.heap.get? b = some o → s''.heap.get? b = some o) (h : VarAt F s.heap y v) : VarAt F s''.heap y v := by
  rcases h with ⟨k, m, hn, hm⟩ | ⟨k, c, hcl, oc, h3, h4⟩
  · exact .inl ⟨k, m, hn.at' fun o q => hk _ o st.LW q, hm⟩
  · refine .inr ⟨k, c, hcl, oc, ?_, h4⟩
    obtain ⟨c', _, h5, _, h6⟩ := st.cells y (.inl ho) k
    rw [hcl] at h5; cases h5
    exact hk _ _ h6 h3
theorem St.wake {s'' : Shared} (st : St G F Z W σ s) (ho : F.own = true) (h0 : F.h0 = G.base) (hk : ∀ b o, Z b ∨ W b → s.heap.get? b = some o → s''.heap.get? b = some o) (bs : Bs G s'') : St G F Z W σ s'' where
  b0 := st.b0
  hk := by rw [h0]; exact bs.base
  bare := bs.bare
  zlt := fun b z => let ⟨o, q⟩ := st.zlt b z; ⟨o, hk b o (.inl z) q⟩
  wlt := fun b w => let ⟨o, q⟩ := st.wlt b w; ⟨o, hk b o (.inr w) q⟩
  wn0 := st.wn0
  disj := st.disj
  z0 := st.z0
  z1 := st.z1
  LW := st.LW
  kind := st.kind
  ns := let ⟨m, hm⟩ := st.ns; ⟨m, hm.at' fun o q => hk _ o (.inr st.LW) q⟩
  cells := fun y ho hy => let ⟨c, v, h1, ⟨oc, h2, h3⟩, h4⟩ := st.cells y ho hy; ⟨c, v, h1, ⟨oc, hk c oc (.inr h4) h2, h3⟩, h4⟩
  inj := st.inj
  ownd := st.ownd
  vals := fun y pv hy => by
    obtain ⟨v, h1, h2⟩ := st.vals y pv hy
    exact ⟨v, h1.wake st ho fun b o w => hk b o (.inr w), h2.mono (fun _ z => z) fun b o z q => hk b o (.inl z) q⟩
  owns := by
    obtain ⟨ad, h1, h2⟩ := st.owns
    refine ⟨ad, fun y xs hy => ?_, h2⟩
    obtain ⟨a1, a2, vs, ⟨k, a3⟩, a4⟩ := h1 y xs hy
    exact ⟨a1, a2.wake st ho fun b o w => hk b o (.inr w), vs, ⟨k, hk _ _ (.inr a1) a3⟩, a4.mono (fun _ z => z) fun b o z q => hk b o (.inl z) q⟩
theorem St.narrow {Z' : Addr → Prop} (st : St G F Z W σ s) (hz : ∀ b, Z' b → Z b) (h1 : ∀ b, F.Z0 b → Z' b) (hs : allScal σ = true) : St G F Z' W σ s :=
  { st with
    zlt := fun b z => st.zlt b (hz b z)
    disj := fun b z => st.disj b (hz b z)
    z0 := fun b z => st.z0 b (hz b z)
    z1 := h1
    vals := fun y pv hy => by
      obtain ⟨v, q1, q2⟩ := st.vals y pv hy
      obtain ⟨pv', e, q3⟩ := allScal.get hs y _ hy
      cases e
      exact ⟨v, q1, q2.scal q3⟩
    owns := by
      obtain ⟨ad, q1, q2⟩ := st.owns
      refine ⟨ad, fun y xs hy => ?_, q2⟩
      obtain ⟨pv', e, _⟩ := allScal.get hs y _ hy
      cases e }
end

/-! the grounds of a generator's parts -/
section
variable {n : Nat}
theorem over_func (h1 : 40 ≤ n) (h2 : n ≤ 999) {body : List Stmt} {env : Env} : OkA 0 ((Amax n).in1.over (.func body env) []) := by
  refine ⟨rfl, ?_, ?_⟩
  · show 999 - n + 0 + (Code.func body env).weight + 0 < 1000
    have : (Code.func body env).weight = 1 := rfl
    omega
  · show 9799 - 8 * n + 1 + 0 + (Code.func body env).cUnits + 8 * 0 + 100 < 9900
    have : (Code.func body env).cUnits = 3 := rfl
    omega
theorem over_one (h1 : 40 ≤ n) (h2 : n ≤ 999) {body : List Stmt} {env : Env} {fr : Frame} (w : Waits (.func body env) fr) {c : Code} (hc : c.weight = 0) (hu : c.cUnits = 0) : OkA 0 ((Amax n).in1.over c [fr]) := by
  cases w
  refine ⟨rfl, ?_, ?_⟩
  · show 999 - n + ((Code.func body env).weight + 0) + c.weight + 0 < 1000
    have : (Code.func body env).weight = 1 := rfl
    omega
  · show 9799 - 8 * n + 1 + ((Code.func body env).cUnits + 0) + c.cUnits + 8 * 0 + 100 < 9900
    have : (Code.func body env).cUnits = 3 := rfl
    omega
theorem over_two (h1 : 40 ≤ n) (h2 : n ≤ 999) {body : List Stmt} {env : Env} {fr fr' : Frame} (w : Waits (.func body env) fr) {c' : Code} (w' : Waits c' fr') (hc' : c'.weight = 0) (hu' : c'.cUnits = 0) {c : Code} (hc : c.weight = 0) (hu : c.cUnits = 0) :
    OkA 0 ((Amax n).in1.over c [fr', fr]) := by
  cases w
  cases w'
  refine ⟨rfl, ?_, ?_⟩
  · show 999 - n + (c'.weight + ((Code.func body env).weight + 0)) + c.weight + 0 < 1000
    have : (Code.func body env).weight = 1 := rfl
    omega
  · show 9799 - 8 * n + 1 + (c'.cUnits + ((Code.func body env).cUnits + 0)) + c.cUnits + 8 * 0 + 100 < 9900
    have : (Code.func body env).cUnits = 3 := rfl
    omega
end

/-! an assignment of a constant, the heap's size known -/
section
variable {G : Gc} {F : Fi} {Z W : Addr → Prop} {σ : Loc} {s : Shared} {sc : Scope}
theorem assignConst {A : Around} {x : Str} {e : Expr} {pv : PV} {p pos : Pos} {Q : Flow → Shared → Prop} {E : Value → Shared → Prop} (hsc : F.sc = sc) (st : St G F Z W σ s)
    (he : ∀ {Q : Value → Shared → Prop}, (∀ v tk, (∀ Z h, Rep Z h pv v) → Q v { s with toks := tk }) → wpAny (model G.prog G.w) A (eval e F.env) Q E s)
    (hk : sc.names.lookup x = some .local) (hs : ∀ env, swapsWith e (some (.Name x p)) pos.line env = pure false)
    (h : ∀ s', s'.heap.objs.size = s.heap.objs.size → Gr Z W s Z W s' → St G F Z W ((x, .val pv) :: σ) s' → Q .next s') : wpAny (model G.prog G.w) A (exec (.Assign [.Name x p] e pos) F.env) Q E s := by
  refine wpAny_Assign_Name (he fun v tk hv => ?_) (hs _)
  have e1 := Ext0.tok s tk
  have z1 := ZG.same st.zlt e1
  exact (st.ext e1 z1).putB (.inl (by rw [hsc]; exact hk)) (hv _ _) fun s' hsz g st' => h s' hsz ((Gr.of e1 z1).trans g) st'
end

theorem end_wide {prog : Program} {w : World} {A : Around} {E : Value → Shared → Prop} {s : Shared} {it : Addr} {x : Str} {t : Tok} {i : Nat} {Q : Value → Shared → Prop} (hh : A.handled = none) (hit : s.heap.IsStrIter it "str_iterator" x t i) (hx : x.cps[i]? = none)
    (hE : ∀ h' e, Heap.ExtBut it s.heap h' → (∃ o, h'.get? it = some o) → (∃ o, h'.get? e = some o ∧ o.cls = .type "StopIteration") → E (.ref e) { s with heap := h' }) :
    wpAny (model prog w) A (Builtin.SmallTypes.nextOf (.ref it)) Q E s := by
  obtain ⟨o, ho, hc, hd⟩ := id hit
  unfold Builtin.SmallTypes.nextOf
  refine wpAny_bind (wpAny_callSpecial?_slot (name := Str.ofString "__next__") hit.typeIs PySem.F.slot_str_iterator_next
    (wpAny_call_entry PySem.F.slot_str_iterator_next hit.typeIs PySem.F.entry_str_iterator_next ?_ (PySem.F.args_str_iterator_next_1 _)))
  show wpAny _ _ (field (.ref it) 0 >>= _) _ _ s
  refine wpAny_bind (wpAny_field ho hd (x := .str x t) rfl ?_)
  show wpAny _ _ (field (.ref it) 1 >>= _) _ _ s
  refine wpAny_bind (wpAny_field ho hd (x := .int i 0) rfl ?_)
  simp only [Int.toNat_natCast, hx]
  refine wpAny_bind (wpAny_rule (wpAny_bind (wpAny_setField ho hd (by simp) (wpAny_bind (wpAny_letGo ?_)))))
  show wpAny _ _ (newExc (.type "StopIteration") [] >>= _) _ _ _
  refine wpAny_bind ?_
  simp only [newExc, newTuple]
  refine wpAny_bind (wpAny_newObj_type ?_ (by size_fits))
  refine wpAny_bind (m := firstArgMember _ _) (wpAny_of_eq (a := Value.none) (by first | rfl | (simp only [firstArgMember]; rfl)) ?_)
  refine wpAny_newObj_type ?_ (by size_fits)
  simp only [raiseNew]
  refine wpAny_bind (wpAny_handled ?_)
  first | rw [show A.in1.handled = none from hh] | rw [hh]
  refine wpAny_bind (wpAny_pure (wpAny_throw ?_))
  exact hE _ _ (((Heap.SameBut.update ..).extBut.push _).push _) ⟨_, Heap.get?_push_of_some _ (Heap.get?_push_of_some _ (Heap.get?_update_self _ ho (Obj.isFreed_of_fields (Obj.data_mapFields hd _))))⟩ ⟨_, Heap.get?_push_size _ rfl, rfl⟩

theorem end_ascii {prog : Program} {w : World} {A : Around} {E : Value → Shared → Prop} {s : Shared} {it : Addr} {x : Str} {t : Tok} {i : Nat} {Q : Value → Shared → Prop} (hh : A.handled = none) (hit : s.heap.IsStrIter it "str_ascii_iterator" x t i) (hx : x.cps[i]? = none)
    (hE : ∀ h' e, Heap.ExtBut it s.heap h' → (∃ o, h'.get? it = some o) → (∃ o, h'.get? e = some o ∧ o.cls = .type "StopIteration") → E (.ref e) { s with heap := h' }) :
    wpAny (model prog w) A (Builtin.SmallTypes.nextOf (.ref it)) Q E s := by
  obtain ⟨o, ho, hc, hd⟩ := id hit
  unfold Builtin.SmallTypes.nextOf
  refine wpAny_bind (wpAny_callSpecial?_slot (name := Str.ofString "__next__") hit.typeIs PySem.F.slot_str_ascii_iterator_next
    (wpAny_call_entry PySem.F.slot_str_ascii_iterator_next hit.typeIs PySem.F.entry_str_ascii_iterator_next ?_ (PySem.F.args_str_ascii_iterator_next_1 _)))
  show wpAny _ _ (field (.ref it) 0 >>= _) _ _ s
  refine wpAny_bind (wpAny_field ho hd (x := .str x t) rfl ?_)
  show wpAny _ _ (field (.ref it) 1 >>= _) _ _ s
  refine wpAny_bind (wpAny_field ho hd (x := .int i 0) rfl ?_)
  simp only [Int.toNat_natCast, hx]
  refine wpAny_bind (wpAny_rule (wpAny_bind (wpAny_setField ho hd (by simp) (wpAny_bind (wpAny_letGo ?_)))))
  show wpAny _ _ (newExc (.type "StopIteration") [] >>= _) _ _ _
  refine wpAny_bind ?_
  simp only [newExc, newTuple]
  refine wpAny_bind (wpAny_newObj_type ?_ (by size_fits))
  refine wpAny_bind (m := firstArgMember _ _) (wpAny_of_eq (a := Value.none) (by first | rfl | (simp only [firstArgMember]; rfl)) ?_)
  refine wpAny_newObj_type ?_ (by size_fits)
  simp only [raiseNew]
  refine wpAny_bind (wpAny_handled ?_)
  first | rw [show A.in1.handled = none from hh] | rw [hh]
  refine wpAny_bind (wpAny_pure (wpAny_throw ?_))
  exact hE _ _ (((Heap.SameBut.update ..).extBut.push _).push _) ⟨_, Heap.get?_push_of_some _ (Heap.get?_push_of_some _ (Heap.get?_update_self _ ho (Obj.isFreed_of_fields (Obj.data_mapFields hd _))))⟩ ⟨_, Heap.get?_push_size _ rfl, rfl⟩

/-- the end of an enumeration of a text, its parts alive -/
theorem enum_str_end {prog : Program} {w : World} {A : Around} {E : Value → Shared → Prop} {s : Shared} {e it : Addr} {x : Str} {t : Tok} {i : Int} {k : Nat} {old : Value} {Q : Option Value → Shared → Prop} (hh : A.handled = none)
    (he : IsEnum s.heap e it i old) (hit : s.heap.IsStrIter it (strIterType x) x t k) (hx : x.cps[k]? = none) (hQ : ∀ h', Heap.ExtBut it s.heap h' → (∃ o, h'.get? it = some o) → Q none { s with heap := h' }) :
    wpAny (model prog w) A (pyNext (.ref e)) Q E s := by
  have hT : s.TypeIs (.ref e) "enumerate" := ⟨_, he, rfl⟩
  have fin : ∀ {A : Around} {Q : Value → Shared → Prop} {E : Value → Shared → Prop}, A.handled = none → (∀ h' e, Heap.ExtBut it s.heap h' → (∃ o, h'.get? it = some o) → (∃ o, h'.get? e = some o ∧ o.cls = .type "StopIteration") → E (.ref e) { s with heap := h' }) →
      wpAny (model prog w) A (Builtin.SmallTypes.nextOf (.ref it)) Q E s := fun hA hE => by
    cases ha : x.cps.all (· < 128)
    · simp only [strIterType, ha] at hit; exact end_wide hA hit hx hE
    · simp only [strIterType, ha] at hit; exact end_ascii hA hit hx hE
  unfold pyNext
  refine wpAny_bind (wpAny_attempt (wpAny_callSpecial?_slot (name := Str.ofString "__next__") hT PySem.F.slot_enumerate_next
    (wpAny_call_entry PySem.F.slot_enumerate_next hT PySem.F.entry_enumerate_next ?_ (PySem.F.args_enumerate_next_1 _))))
  show wpAny _ A.in1 (field (.ref e) 2 >>= _) _ _ _
  refine wpAny_bind (wpAny_field he rfl (x := .ref it) rfl ?_)
  refine wpAny_bind (fin (show A.in1.handled = none from hh) fun h' y he' hl' hx' => ?_)
  obtain ⟨o, ho, hc⟩ := hx'
  refine wpAny_bind (wpAny_isInstance (T := "StopIteration") (b := true) ⟨o, ho, hc⟩ isSubtype_stop ?_)
  exact wpAny_pure (hQ _ he' hl')
theorem YP.intro {G : Gc} {ends : Bool} {xs : List PV} {ZI wr Z6 : Addr → Prop} {m : Nat} {s₀ s5 s6 : Shared} {x : PV} {v : Value} {kap : Resume → Shared → Prop} (hext : ExtG wr no s₀ s5) (lw : Liv wr s5.heap) (e : Ext0 s5 s6) (z : ZG ZI s5 Z6 s6)
    (hzw : ∀ b, ZI b → ¬ wr b) (hx : xs[xs.length - 1 - m]? = some x) (r : Rep Z6 s6.heap x v)
    (hk : (ends = true ∨ m ≠ 0) → ∀ s'', (∀ b o, ZI b ∨ wr b → s6.heap.get? b = some o → s''.heap.get? b = some o) → Bs G s'' → kap (.send .none) s'') : YP G ends xs ZI wr m s₀ v s6 kap := by
  have nd : ∀ b, s5.heap.get? b = none → ¬ wr b := fun b d w => by obtain ⟨o, q⟩ := lw b w; rw [d] at q; cases q
  refine ⟨hext.trans e (fun _ h => h.elim) (fun _ h => h.elim), ⟨x, Z6, hx, r, fun b q => (z.new b q).imp id fun d => (hext.dead d).elim id fun w => (nd b d w).elim, z.lt, fun b q => (z.new b q).elim (hzw b) (nd b)⟩, fun b w => let ⟨o, q⟩ := lw b w; ⟨o, e.keep' b o q⟩, hk⟩
theorem cutLast {α : Type} {pre tl : List α} {x : α} {xs : List α} (h : xs = pre ++ x :: tl) : xs[xs.length - 1 - tl.length]? = some x := by
  subst h
  have : (pre ++ x :: tl).length - 1 - tl.length = pre.length := by simp
  rw [this]
  simp
end Mine
namespace Mine

def isCell (k : Option NameKind) : Bool := match k with
  | some .cell => true
  | _ => false
def isLocal (k : Option NameKind) : Bool := match k with
  | some .local => true
  | _ => false
theorem isCell_eq {k : Option NameKind} (h : isCell k = true) : k = some .cell := by
  unfold isCell at h; split at h <;> simp_all
theorem isLocal_eq {k : Option NameKind} (h : isLocal k = true) : k = some .local := by
  unfold isLocal at h; split at h <;> simp_all
def isFn (k : ScopeKind) : Bool := match k with
  | .function => true
  | _ => false
theorem isFn_eq {k : ScopeKind} (h : isFn k = true) : k = .function := by
  unfold isFn at h; split at h <;> simp_all
def hasFree (l : List (Str × NameKind)) (y : Str) : Bool := l.any fun p => p.1 == y && (match p.2 with | .free => true | _ => false)
theorem hasFree_mem {l : List (Str × NameKind)} {y : Str} (h : hasFree l y = true) : (y, NameKind.free) ∈ l := by
  obtain ⟨p, hp, h⟩ := List.any_eq_true.mp h
  obtain ⟨h1, h2⟩ := Bool.and_eq_true_iff.mp h
  obtain ⟨a, b⟩ := p
  have e1 : a = y := beq_iff_eq.mp h1
  have e2 : b = .free := by
    dsimp only at h2
    split at h2 <;> simp_all
  subst e1 e2
  exact hp
def nameOk (sc scope : Scope) (p : Str × NameKind) : Bool := match p.2 with
  | .cell => isCell (scope.names.lookup p.1)
  | .local => isLocal (scope.names.lookup p.1)
  | .free => isCell (sc.names.lookup p.1)
  | _ => true
/-- what a comprehension's table must be -/
def compB (sc scope : Scope) (keys : List Str) : Bool :=
  scope.names.all (nameOk sc scope) && ((relab scope sc).names.lookup (".0" : Str)).isSome && (sc.names.lookup (".0" : Str)).isNone && keys.all (fun y => hasFree scope.names y && isCell ((relab scope sc).names.lookup y) && !(cellNames scope).contains y) && isFn scope.kind
/-- within another comprehension: all that is captured is known -/
def compBN (sc scope : Scope) (keys : List Str) : Bool :=
  scope.names.all (nameOk sc scope) && ((relab scope sc).names.lookup (".0" : Str)).isSome && scope.names.all (fun p => (match p.2 with | .free => keys.contains p.1 | _ => true)) && keys.all (fun y => hasFree scope.names y && isCell ((relab scope sc).names.lookup y) && !(cellNames scope).contains y) && isFn scope.kind
def allVal (σ : Loc) : Bool := σ.all fun p => match p.2 with
  | .val _ => true
  | .own _ => false

section
variable {G : Gc} {n : Nat} {σ τ κ : Loc} {sc : Scope} {o : Out}

theorem compB_use {scope : Scope} (h : compB sc scope (κ.map (·.1)) = true) (hs : subL κ σ) (hv : allVal κ = true) :
    Caps sc scope σ κ ∧ FreeOk sc scope ∧ (relab scope sc).names.lookup (".0" : Str) ≠ none ∧ sc.names.lookup (".0" : Str) = none ∧ scope.kind = .function ∧ ∀ y ∈ scope.names, y.2 = .local → scope.names.lookup y.1 = some .local := by
  unfold compB at h
  simp only [Bool.and_eq_true] at h
  obtain ⟨⟨⟨⟨h1, h2⟩, h3⟩, h4⟩, h5⟩ := h
  have h1 := List.all_eq_true.mp h1
  have h4 := List.all_eq_true.mp h4
  refine ⟨fun y sl hy => ?_, fun p hp hf => ?_, ?_, ?_, isFn_eq h5, fun y hy hl => ?_⟩
  · have hm := mem_of_lookup hy
    obtain ⟨q12, q3⟩ := Bool.and_eq_true_iff.mp (h4 y (List.mem_map_of_mem (f := (·.1)) hm))
    obtain ⟨q1, q2⟩ := Bool.and_eq_true_iff.mp q12
    refine ⟨?_, hs.out y sl hy, hasFree_mem q1, isCell_eq q2, fun hc => ?_⟩
    · have := List.all_eq_true.mp hv _ hm
      cases sl with
      | val pv => exact ⟨pv, rfl⟩
      | own xs => cases this
    · rw [List.contains_iff_mem.mpr hc] at q3; cases q3
  · have := h1 p hp
    unfold nameOk at this
    rw [hf] at this
    exact isCell_eq this
  · intro e; rw [e] at h2; cases h2
  · exact Option.isNone_iff_eq_none.mp h3
  · have := h1 y hy
    unfold nameOk at this
    rw [hl] at this
    exact isLocal_eq this
theorem look_key : ∀ (κ : Loc) (x : Str), x ∈ κ.map (·.1) → ∃ sl, κ.lookup x = some sl
  | [], x, h => by cases h
  | (a1, a2) :: r, x, h => by
    by_cases e1 : x = a1
    · subst e1; exact ⟨a2, lookup_cons_self ..⟩
    · rcases List.mem_cons.mp h with e2 | hq
      · exact absurd e2 e1
      · obtain ⟨sl, h⟩ := look_key r x hq
        exact ⟨sl, by rw [lookup_cons_ne _ _ e1]; exact h⟩
theorem compBN_use {scope : Scope} (h : compBN sc scope (κ.map (·.1)) = true) (hs : subL κ σ) (hv : allVal κ = true) :
    Caps sc scope σ κ ∧ FreeOk sc scope ∧ (relab scope sc).names.lookup (".0" : Str) ≠ none ∧ FreeIn σ scope ∧ scope.kind = .function ∧ ∀ y ∈ scope.names, y.2 = .local → scope.names.lookup y.1 = some .local := by
  unfold compBN at h
  simp only [Bool.and_eq_true] at h
  obtain ⟨⟨⟨⟨h1, h2⟩, h3⟩, h4⟩, h5⟩ := h
  have h1 := List.all_eq_true.mp h1
  have h4 := List.all_eq_true.mp h4
  have h3 := List.all_eq_true.mp h3
  have cap : Caps sc scope σ κ := fun y sl hy => by
    have hm := mem_of_lookup hy
    obtain ⟨q12, q3⟩ := Bool.and_eq_true_iff.mp (h4 y (List.mem_map_of_mem (f := (·.1)) hm))
    obtain ⟨q1, q2⟩ := Bool.and_eq_true_iff.mp q12
    refine ⟨?_, hs.out y sl hy, hasFree_mem q1, isCell_eq q2, fun hc => ?_⟩
    · have := List.all_eq_true.mp hv _ hm
      cases sl with
      | val pv => exact ⟨pv, rfl⟩
      | own xs => cases this
    · rw [List.contains_iff_mem.mpr hc] at q3; cases q3
  refine ⟨cap, fun p hp hf => ?_, ?_, fun p hp hf => ?_, isFn_eq h5, fun y hy hl => ?_⟩
  · have := h1 p hp
    unfold nameOk at this
    rw [hf] at this
    exact isCell_eq this
  · intro e; rw [e] at h2; cases h2
  · have := h3 p hp
    rw [hf] at this
    have hm := List.contains_iff_mem.mp this
    have hl := look_key κ p.1 hm
    obtain ⟨sl, hl⟩ := hl
    obtain ⟨⟨pv, rfl⟩, q2, _⟩ := cap _ _ hl
    exact ⟨pv, q2⟩
  · have := h1 y hy
    unfold nameOk at this
    rw [hl] at this
    exact isLocal_eq this

theorem Ev.compr {elt t iter : Expr} {ifs : List Expr} {scope : Scope} {pos : Pos} {xs ys : List PV} (κ : Loc)
    (h1 : EvI G n sc σ iter xs true) (hlen : xs.length ≤ 1000000) (hB : compB sc scope (κ.map (·.1)) = true) (hsub : subL κ σ) (hv : allVal κ = true) (hs : ∀ env x, foldedSetIterable iter env x = pure x)
    (hc : CompOk G n (cellNames scope) (relab scope sc) κ t ifs elt xs ys) : Ev G n sc σ (.ListComp elt [⟨t, iter, ifs, 0⟩] scope pos) (.list ys) := by
  obtain ⟨q1, q2, q3, q4, q6, q7⟩ := compB_use hB hsub hv
  exact Ev.comp h1 hlen hc q1 q2 q3 (.inl q4) q6 q7 hs
theorem Ev.comprN {elt t iter : Expr} {ifs : List Expr} {scope : Scope} {pos : Pos} {xs ys : List PV} (κ : Loc)
    (h1 : EvI G n sc σ iter xs true) (hlen : xs.length ≤ 1000000) (hB : compBN sc scope (κ.map (·.1)) = true) (hsub : subL κ σ) (hv : allVal κ = true) (hs : ∀ env x, foldedSetIterable iter env x = pure x)
    (hc : CompOk G n (cellNames scope) (relab scope sc) κ t ifs elt xs ys) : Ev G n sc σ (.ListComp elt [⟨t, iter, ifs, 0⟩] scope pos) (.list ys) := by
  obtain ⟨q1, q2, q3, q4, q6, q7⟩ := compBN_use hB hsub hv
  exact Ev.comp h1 hlen hc q1 q2 q3 (.inr q4) q6 q7 hs
theorem Ex1.assignCompr {x : Str} {elt t iter : Expr} {ifs : List Expr} {scope : Scope} {cp p pos : Pos} {xs ys : List PV} (κ : Loc)
    (h1 : EvI G n sc σ iter xs true) (hlen : xs.length ≤ 1000000) (hB : compB sc scope (κ.map (·.1)) = true) (hsub : subL κ σ) (hv : allVal κ = true) (hs : ∀ env x, foldedSetIterable iter env x = pure x)
    (hk : sc.names.lookup x = some .local ∨ sc.names.lookup x = some .cell) (hc : CompOk G n (cellNames scope) (relab scope sc) κ t ifs elt xs ys) :
    Ex1 G n sc σ (.Assign [.Name x p] (.ListComp elt [⟨t, iter, ifs, 0⟩] scope cp) pos) (.next ((x, .val (.list ys)) :: σ)) := by
  obtain ⟨q1, q2, q3, q4, q6, q7⟩ := compB_use hB hsub hv
  exact Ex1.assignComp h1 hlen hc q1 q2 q3 q4 q6 q7 hs hk

theorem Ex1.assignComprP {x : Str} {elt t iter : Expr} {ifs : List Expr} {scope : Scope} {cp p pos : Pos} {xs ys : List PV} (κ : Loc)
    (h1 : EvI G n sc σ iter xs true) (hlen : xs.length ≤ 1000000) (hB : compB sc scope (κ.map (·.1)) = true) (hsub : subL κ σ) (hv : allVal κ = true) (hs : ∀ env x, foldedSetIterable iter env x = pure x)
    (hk : sc.names.lookup x = some .local ∨ sc.names.lookup x = some .cell) (hc : CompOk G n (cellNames scope) (relab scope sc) κ t ifs elt xs ys) :
    Ex1 G n sc σ (.Assign [.Name x p] (.ListComp elt [⟨t, iter, ifs, 0⟩] scope cp) pos) (.next ((x, .val (.pl ys)) :: σ)) := by
  obtain ⟨q1, q2, q3, q4, q6, q7⟩ := compB_use hB hsub hv
  exact Ex1.assignCompP h1 hlen hc q1 q2 q3 q4 q6 q7 hs hk

/-- items by a function, tests by one, elements by one -/
theorem CompOk.map {α : Type} {mn : List Str} {t elt : Expr} {ifs : List Expr} (g : α → PV) (p : α → Bool) (f : α → PV) : ∀ (l : List α),
    (∀ a ∈ l, ∃ τ, AsV G (some mn) sc σ t (g a) τ ∧ Tests G n sc τ ifs (p a) ∧ (p a = true → Ev G n sc τ elt (f a)) ∧ subL σ τ) → CompOk G n mn sc σ t ifs elt (l.map g) ((l.filter p).map f)
  | [], _ => .nil
  | a :: l, h => by
    obtain ⟨τ, h1, h2, h3, h4⟩ := h a (.head _)
    have ih := CompOk.map g p f l fun b hb => h b (.tail _ hb)
    have := CompOk.cons h1 h2 h3 ih h4.out
    cases hp : p a with
    | true => rw [hp] at this; rw [List.filter_cons_of_pos hp]; exact this
    | false => rw [hp] at this; rw [List.filter_cons_of_neg (by rw [hp]; exact Bool.false_ne_true)]; exact this
theorem Tests.cond {e : Expr} {b b' : Bool} (h : EvT G n sc σ e b) (hb : b = b') : Tests G n sc σ [e] b' := hb ▸ .one h

theorem joinT_ones (l : Tx) : joinT [] (l.map fun x => [x]) = l := by
  cases l with
  | nil => rfl
  | cons a r =>
    show (r.map fun x => [x]).foldl (fun acc p => acc ++ [] ++ p) [a] = a :: r
    have : ∀ (r : Tx) (acc : Tx), (r.map fun x => [x]).foldl (fun acc p => acc ++ [] ++ p) acc = acc ++ r := by
      intro r
      induction r with
      | nil => intro acc; simp
      | cons b r ih => intro acc; rw [List.map_cons, List.foldl_cons, ih]; simp
    rw [this]; rfl
theorem joinT_nil (l : List Tx) : joinT [] l = l.flatten := by
  cases l with
  | nil => rfl
  | cons a r =>
    show r.foldl (fun acc p => acc ++ [] ++ p) a = (a :: r).flatten
    have : ∀ (r : List Tx) (acc : Tx), r.foldl (fun acc p => acc ++ [] ++ p) acc = acc ++ r.flatten := by
      intro r
      induction r with
      | nil => intro acc; simp
      | cons b r ih => intro acc; rw [List.foldl_cons, ih]; simp
    rw [this]; rfl
theorem joinW_ones (l : Tx) : joinW [] (l.map fun x => [x]) = l.length := by
  unfold joinW
  induction l with
  | nil => rfl
  | cons a r ih => simp only [List.map_cons, List.sum_cons, List.length_cons] at *; simp at *; omega
end
end Mine
namespace Mine

def defAt (p : Program) (i : Nat) : DefRec := match p.main.body[i]? with
  | some (.FunctionDef name args body _ _ _ scope _ _ pos) => ⟨name, args, body, scope, pos⟩
  | _ => ⟨Str.empty, ⟨[], [], none, [], [], none, []⟩, [], default, default⟩
abbrev P := PySem.Challenge.pw_wb0028_02
abbrev dEll : DefRec := defAt P 6
abbrev dIter : DefRec := defAt P 8
abbrev dStrip : DefRec := defAt P 9
abbrev dCheck : DefRec := defAt P 10
abbrev dColl : DefRec := defAt P 1
abbrev dGrp : DefRec := defAt P 3

def escGo : Nat → Bool → Tx → List (Nat × Tx)
  | i, esc, [] => if esc then [(i - 1, [92])] else []
  | i, true, x :: t => (i, [92, x]) :: escGo (i + 1) false t
  | i, false, x :: t => if x == 92 then escGo (i + 1) true t else (i, [x]) :: escGo (i + 1) false t
def escPV (l : List (Nat × Tx)) : List PV := l.map fun p => .tup [.int p.1, .str p.2]

section
variable {G : Gc} {n : Nat}
set_option maxHeartbeats 2000000

theorem enumStr {F : Fi} {A : Around} {Z W : Addr → Prop} {σ : Loc} {s : Shared} {x : Str} {c : Tx} {e : Expr} {p pos : Pos} {Q : Value → Shared → Prop} {E : Value → Shared → Prop} (nb : NoB G) (hx : x = ("enumerate" : Str)) (ok : OkA n A)
    (st : St G F Z W σ s) (hk : F.sc.names.lookup x = some .globalImplicit) (h1 : ∀ {Q : Value → Shared → Prop}, (∀ t, Q (.str (mkS c) t) s) → wpAny (model G.prog G.w) A (eval e F.env) Q E s)
    (he : ∀ env pos, backTo pos (starEach [e] env) = [(false, eval e env)])
    (h : ∀ h' t, IsEnum h' (s.heap.objs.size + 1) s.heap.objs.size 0 .none → h'.IsStrIter s.heap.objs.size (strIterType (mkS c)) (mkS c) t 0 → h'.objs.size = s.heap.objs.size + 2 →
      (∀ b o, s.heap.get? b = some o → h'.get? b = some o) → Q (.ref (s.heap.objs.size + 1)) { s with heap := h' }) : wpAny (model G.prog G.w) A (eval (.Call (.Name x p) [e] [] pos) F.env) Q E s := by
  subst hx
  refine wpAny_Call_NameR (evBuiltin (sc := F.sc) hk nb (by decide) boot_enumerate (by decide) (by decide) rfl st ?_)
  refine PyProof.Rows.callWith_type (by rw [he]; rfl) ?_
  rw [he]
  exact Calls.evalArgs_plain (Calls.spliced_cons (h1 fun t => Calls.spliced_nil (call_enumerate_str fun h' a b cc d => h h' t a b cc d)))

theorem spec_iter (h1 : 40 ≤ n) (h2 : n ≤ 999) (nb : NoB G) (c : Tx) : GSpec G n 2 dIter (slots ["addr"] [.str c]) (escPV (escGo 0 false c)) true := by
  intro F Z s hsc ho h0 hZ0 st
  have ok := over_func (n := n) h1 h2 (body := dIter.body) (env := F.env)
  refine GW.cons (GW.wp (assignConst (pv := .int 0) (sc := dIter.scope) hsc st (fun hv => wpAny_Constant_int (hv _ _ fun Z h => by simp [Rep])) rfl (fun _ => rfl) fun s1 z1 g1 st1 => ?_))
  refine GW.cons (GW.wp (assignConst (pv := .bool false) (sc := dIter.scope) hsc st1 (fun {Q} hv => wpAny_Constant_bool (hv _ s1.toks fun Z h => by simp [Rep])) rfl (fun _ => rfl) fun s2 z2 g2 st2 => ?_))
  refine GW.cons (GW.for_ (fun _ => rfl) ?_)
  obtain ⟨va, hva, hra⟩ := st2.vals ("addr" : Str) (.str c) rfl
  simp only [Rep] at hra
  obtain ⟨ta, rfl⟩ := hra
  refine enumStr (x := ("enumerate" : Str)) (c := c) nb rfl ok st2 (by rw [hsc]; rfl) (fun {Q} hq => st2.load hva (by decide) (hq ta)) (fun _ _ => rfl) fun h' t he hit hsz hk => ?_
  have hsize : s2.heap.objs.size = s.heap.objs.size := z2.trans z1
  rw [hsize] at he hit hsz ⊢
  let it := s.heap.objs.size
  let en := s.heap.objs.size + 1
  have D : ∀ A : Around, A.handled = none → Draws G.prog G.w A it [it] (mkS c).cps.size (fun i v => ∃ cc u, (mkS c).cps[i]? = some cc ∧ v = .str ⟨#[cc]⟩ u) (fun i h => h.IsStrIter it (strIterType (mkS c)) (mkS c) t i) := fun A hA => by
    cases ha : (mkS c).cps.all (· < 128)
    · simp only [strIterType, ha]; exact Draws.strWide hA it (mkS c) t
    · simp only [strIterType, ha]; exact Draws.strAscii hA it (mkS c) t
  have e3 : Ext0 s2 { s2 with heap := h' } := Ext0.heap (tk := s2.toks) hk
  have st3 := st2.ext e3 (ZG.same st2.zlt e3)
  have dsz : ∀ b, s.heap.objs.size ≤ b → G.base.get? b = none := fun b hb => by
    cases e : G.base.get? b with
    | none => rfl
    | some o => exact absurd (Heap.lt_size (st.base b o e)) (Nat.not_lt.mpr hb)
  have hLlt : F.L < s.heap.objs.size := live_lt (st.wlt F.L rfl)
  have hZlt : ∀ b, Z b → b < s.heap.objs.size := fun b z => live_lt (st.zlt b z)
  refine wpAny_pyIter_enum he (GC.induct (fun k n' s₀ s' => ∃ (rest : Tx) (i : Nat) (esc : Bool) (pre : List PV), k = rest.length ∧ i + rest.length = c.length ∧ c.drop i = rest ∧ n' = (escGo i esc rest).length ∧
      escPV (escGo 0 false c) = pre ++ escPV (escGo i esc rest) ∧ St G F Z (fun b => b = F.L) [("escape", .val (.bool esc)), ("pos", .val (.int ((i - 1 : Nat) : Int))), ("addr", .val (.str c))] s' ∧
      (∃ old, IsEnum s'.heap en it i old) ∧ s'.heap.IsStrIter it (strIterType (mkS c)) (mkS c) t i ∧ ExtG (wr1 2 (fun b => b = F.L) s) no s₀ s') ?_ ⟨c, 0, false, [], rfl, Nat.zero_add _, rfl, ?_, rfl, st3.weak (subL.out ⟨rfl, rfl, rfl, trivial⟩), ⟨_, he⟩, hit, ?_⟩)
  · rintro k n' s₀ s' ⟨rest, i, esc, pre, rfl, hil, hdr, rfl, hpre, stl, ⟨old, hel⟩, hitl, hext⟩ ih
    have hwb : ∀ b, wr1 2 (fun b => b = F.L) s b → b = F.L ∨ b = en ∨ b = it := fun b h => by
      rcases h with h | ⟨ha, hb⟩
      · exact .inl h
      · rcases Nat.lt_or_ge b en with q | q
        · exact .inr (.inr (Nat.le_antisymm (Nat.lt_succ_iff.mp q) ha))
        · exact .inr (.inl (Nat.le_antisymm (Nat.lt_succ_iff.mp hb) q))
    have hwe : ∀ b, (b = en ∨ b = it) → wr1 2 (fun b => b = F.L) s b := fun b h => .inr (h.elim (fun h => h ▸ ⟨Nat.le_succ _, Nat.lt_succ_self _⟩) fun h => h ▸ ⟨Nat.le_refl _, Nat.lt_succ_of_lt (Nat.lt_succ_self _)⟩)
    have hge : ∀ b, (b = en ∨ b = it) → s.heap.objs.size ≤ b := fun b h => h.elim (fun h => h ▸ Nat.le_succ _) fun h => h ▸ Nat.le_refl _
    have hL2 : ∀ b, b = F.L → ¬ (b = en ∨ b = it) := fun b e q => absurd (hge b q) (Nat.not_le.mpr (e ▸ hLlt))
    have hZ2 : ∀ b, Z b → ¬ (b = en ∨ b = it) := fun b z q => absurd (hge b q) (Nat.not_le.mpr (hZlt b z))
    have hZw : ∀ b, Z b → ¬ wr1 2 (fun b => b = F.L) s b := fun b z w => (hwb b w).elim (fun q => st.disj b z q) (hZ2 b z)
    have h02 : ∀ b, (b = en ∨ b = it) → F.h0.get? b = none := fun b q => by rw [h0]; exact dsz b (hge b q)
    have hne : en ≠ it := Nat.succ_ne_self _
    have lw : ∀ (s5 : Shared) (σ : Loc), St G F Z (fun b => b = F.L) σ s5 → (∃ o, s5.heap.get? en = some o) → (∃ o, s5.heap.get? it = some o) → Liv (wr1 2 (fun b => b = F.L) s) s5.heap := fun s5 σ st5 q1 q2 b w => by
      rcases hwb b w with h | h | h
      · exact st5.wlt b h
      · exact h ▸ q1
      · exact h ▸ q2
    have back : ∀ {σ : Loc} {s5 : Shared} {Z5 : Addr → Prop}, allScal σ = true → St G F Z5 (fun b => b = F.L) σ s5 → (∀ b, Z b → Z5 b) → St G F Z (fun b => b = F.L) σ s5 := fun ha st5 hz => st5.narrow hz (fun b z => hZ0 ▸ z) ha
    refine GC.for_ fun fr hw => ?_
    have ok1 := fun (c : Code) (hc : c.weight = 0) (hu : c.cUnits = 0) => over_one h1 h2 hw (c := c) hc hu
    have ok1h := fun (c : Code) (hc : c.weight = 0) (hu : c.cUnits = 0) => (show ((Amax n).in1.over c [fr]).in1.handled = none from (ok1 c hc hu).1)
    cases rest with
    | nil =>
      have hi : i = (mkS c).cps.size := by simp at hil; simp [mkS, hil]
      have okE := fun (c : Code) (hc : c.weight = 0) (hu : c.cUnits = 0) => (show ((Amax n).in1.over c [fr]).handled = none from (ok1 c hc hu).1)
      refine enum_str_end (okE _ rfl rfl) hel hitl (by rw [hi]; exact Array.getElem?_eq_none (Nat.le_refl _)) fun h'' hb hitL => GC.block fun fr' hw' => GW.nil ?_
      have e4 : ExtG (fun b => b = en ∨ b = it) no s' { s' with heap := h'' } := ⟨fun b o nb e => hb b o (fun q => nb (.inr q)) e, Nat.le_refl _, fun _ _ _ e => e, rfl, fun x => x⟩
      have z4 : ZG Z s' Z { s' with heap := h'' } := ⟨fun _ z => z, fun _ z => .inl z, fun b z => let ⟨o, e⟩ := stl.zlt b z; ⟨o, e4.keep b o (hZ2 b z) e⟩⟩
      have st4 := stl.step e4 z4 hL2 hZ2 h02 (noTrue ho)
      have x4 : ExtG (wr1 2 (fun b => b = F.L) s) no s₀ { s' with heap := h'' } := hext.trans e4 (fun b w => .inl (hwe b w)) (fun _ h => h.elim)
      refine GW.cons (GW.if_ ((EvT.val (x := .bool esc) (Ev.nm rfl) rfl (fun _ h => by cases h) (fun _ h => by cases h) (fun _ => rfl)).run F _ Z _ _ _ _ hsc ok st4 fun s5 Z5 e5 z5 => ?_))
      have st5 := back rfl (st4.ext e5 z5) z5.sub
      have x5 : ExtG (wr1 2 (fun b => b = F.L) s) no s₀ s5 := x4.trans e5 (fun _ h => h.elim) (fun _ h => h.elim)
      have w5 := lw s5 _ st5 ⟨_, e5.keep' _ _ (hb en _ hne hel)⟩ (let ⟨o, q⟩ := hitL; ⟨o, e5.keep' _ _ q⟩)
      cases esc with
      | false =>
        rw [if_neg Bool.false_ne_true]
        exact GW.nil (GW.nil ⟨fun v q => (by cases q), rfl, rfl, x5⟩)
      | true =>
        rw [if_pos rfl]
        refine GW.cons (GW.exprYield (n := 0) rfl rfl st5.inter (by rw [show F.env.scope = F.sc from rfl, hsc]; rfl) ?_)
        refine (Ev.mkT (xs := [.int ((i - 1 : Nat) : Int), .str [92]]) (EvL.cons (Ev.nm rfl) (EvL.cons (Ev.cStr rfl) EvL.nil (fun _ => rfl)) (fun _ => rfl)) (by simp)).run F _ Z _ s5 _ _ hsc ok st5 fun v s6 Z6 e6 z6 r6 => fun kap hkap => ?_
        have st6 := back rfl (st5.ext e6 z6) z6.sub
        refine YP.intro x5 w5 e6 z6 hZw (cutLast (tl := []) hpre) r6 fun _ s'' hkeep bs'' => hkap s'' ?_
        exact GW.nil (GW.nil ⟨fun v q => (by cases q), rfl, rfl, ExtG.refl _ _ _⟩)
    | cons y t =>
      have hilt : i < c.length := by simp at hil; omega
      have hyc : c[i]? = some y := by
        have := congrArg List.head? hdr
        simpa [List.head?_drop] using this
      have hdt : c.drop (i + 1) = t := by rw [← List.drop_drop, hdr]; rfl
      have hef : en ∉ [it] := fun h => hne (List.mem_singleton.mp h)
      refine wpAny_pyNext_enum_itemD (D _ (ok1h _ rfl rfl)) hel hitl (by simpa [mkS] using hilt) hne hef fun xv h'' tk hP hout hit2 hT hsz2 hk2 => ?_
      obtain ⟨cc, u, hcc, rfl⟩ := hP
      have hcc : cc = y := by
        have : c[i]? = some cc := by simpa [mkS] using hcc
        rw [hyc] at this; cases this; rfl
      subst hcc
      refine wpAny_letOwnedTupleGo_enum hout fun h3 he3 hs3 => ?_
      have hTe : s'.heap.objs.size ≠ en := Nat.ne_of_gt (Heap.lt_size hel)
      have hTi : s'.heap.objs.size ≠ it := by obtain ⟨o, q, _⟩ := hitl; exact Nat.ne_of_gt (Heap.lt_size q)
      have e3' : ExtG (fun b => b = en ∨ b = it) no s' { s' with heap := h3, toks := tk + 1 } := ⟨fun b o nb e => (hs3.2 b fun q => nb (.inl q)).trans (hk2 b o (fun q => nb (.inl q)) (fun q => nb (.inr q)) e), Nat.le_refl _, fun _ _ _ e => e, rfl, fun x => x⟩
      have hT3 : h3.get? s'.heap.objs.size = some { cls := .type "tuple", data := .seq #[.int i tk, .str ⟨#[cc]⟩ u] } := (hs3.2 _ hTe).trans hT
      have hi3 : h3.IsStrIter it (strIterType (mkS c)) (mkS c) ta (i + 1) ∨ True := .inr trivial
      obtain ⟨oi, hoi, hoi'⟩ := hit2
      have hoi3 : h3.get? it = some oi := (hs3.2 it (Ne.symm hne)).trans hoi
      have zt : ZG Z s' (fun b => Z b ∨ b = s'.heap.objs.size) { s' with heap := h3, toks := tk + 1 } := ⟨fun _ z => .inl z, fun b z => z.elim .inl fun q => .inr (q ▸ none_size _), fun b z => z.elim (fun z => let ⟨o, e⟩ := stl.zlt b z; ⟨o, e3'.keep b o (hZ2 b z) e⟩) fun q => ⟨_, q ▸ hT3⟩⟩
      have st3 := stl.step e3' zt hL2 hZ2 h02 (noTrue ho)
      have okA := fun (c : Code) (hc : c.weight = 0) (hu : c.cUnits = 0) => (show ((Amax n).in1.over c [fr]).handled = none from (ok1 c hc hu).1)
      refine (AsV.tup (own := none) (sc := dIter.scope) (xs := [.int i, .str [cc]]) (AsL.cons (AsV.name (.inl rfl)) (AsL.cons (AsV.name (.inl rfl)) AsL.nil)) rfl (fun _ => rfl)).run F _ (fun b => Z b ∨ b = s'.heap.objs.size) _ _ (.ref s'.heap.objs.size) _ _ hsc ho (by exact okA _ rfl rfl) st3 ?_ fun s4 g4 st4 => ?_
      · simp only [Rep, Reps]
        exact ⟨_, [.int i tk, .str ⟨#[cc]⟩ u], rfl, .inr rfl, ⟨_, hT3, rfl, _, rfl⟩, _, _, rfl, ⟨tk, rfl⟩, _, _, rfl, ⟨u, rfl⟩, rfl⟩
      have st5 := back (σ := [("ch", .val (.str [cc])), ("pos", .val (.int i)), ("escape", .val (.bool esc)), ("addr", .val (.str c))]) rfl (st4.weak (subL.out ⟨rfl, rfl, rfl, rfl, trivial⟩)) fun _ z => .inl z
      have en4 : s4.heap.get? en = h3.get? en := by rw [he3]; exact g4.ext.keep en _ (fun q => hL2 _ q (.inl rfl)) he3
      have it4 : s4.heap.get? it = some oi := g4.ext.keep it _ (fun q => hL2 _ q (.inr rfl)) hoi3
      have he4 : IsEnum s4.heap en it ((i + 1 : Nat) : Int) (.str ⟨#[cc]⟩ u) := en4.trans (by simpa using he3)
      have x4 : ExtG (wr1 2 (fun b => b = F.L) s) no s₀ s4 := (hext.trans e3' (fun b w => .inl (hwe b w)) (fun _ h => h.elim)).trans g4.ext (fun b w => .inl (.inl w)) (fun _ h => h.elim)
      -- on to the next turn
      have next : ∀ (esc' : Bool) (σ' : Loc) (pre' : List PV) (s₀' s5 : Shared), escPV (escGo 0 false c) = pre' ++ escPV (escGo (i + 1) esc' t) → St G F Z (fun b => b = F.L) σ' s5 → subL [("escape", .val (.bool esc')), ("pos", .val (.int ((i + 1 - 1 : Nat) : Int))), ("addr", .val (.str c))] σ' →
          s5.heap.get? en = s4.heap.get? en → s5.heap.get? it = s4.heap.get? it → ExtG (wr1 2 (fun b => b = F.L) s) no s₀' s5 → _ := fun esc' σ' pre' s₀' s5 hp' st' hsub q1 q2 x' =>
        ih t.length (escGo (i + 1) esc' t).length s₀' s5 (by simp) ⟨t, i + 1, esc', pre', rfl, by simp at hil; omega, hdt, rfl, hp', st'.weak hsub.out, ⟨_, q1.trans he4⟩, ⟨oi, q2.trans it4, hoi'⟩, x'⟩
      refine GW.cons (GW.if_ ((EvT.val (x := .bool esc) (Ev.nm rfl) rfl (fun _ h => by cases h) (fun _ h => by cases h) (fun _ => rfl)).run F _ Z _ _ _ _ hsc (ok1 _ rfl rfl) st5 fun s6 Z6 e6 z6 => ?_))
      have st6 := back rfl (st5.ext e6 z6) z6.sub
      have x6 : ExtG (wr1 2 (fun b => b = F.L) s) no s₀ s6 := x4.trans e6 (fun _ h => h.elim) (fun _ h => h.elim)
      have en6 : s6.heap.get? en = s4.heap.get? en := by rw [he4]; exact e6.keep' _ _ he4
      have it6 : s6.heap.get? it = s4.heap.get? it := by rw [it4]; exact e6.keep' _ _ it4
      have w6 := lw s6 _ st6 ⟨_, en6.trans he4⟩ ⟨_, it6.trans it4⟩
      cases esc with
      | true =>
        rw [if_pos rfl]
        refine GW.cons (GW.exprYield (n := (escGo (i + 1) false t).length) (hw.split rfl) (hw.guard rfl) st6.inter (by rw [show F.env.scope = F.sc from rfl, hsc]; rfl) ?_)
        refine (Ev.mkT (xs := [.int i, .str [92, cc]]) (EvL.cons (Ev.nm rfl) (EvL.cons (Ev.bin (Ev.cStr (c := [92]) rfl) (Ev.nm rfl) (BinV.addS (by simp))) EvL.nil (fun _ => rfl)) (fun _ => rfl)) (by simp)).run F _ Z _ s6 _ _ hsc (by exact ok1 _ rfl rfl) st6 fun v s7 Z7 e7 z7 r7 => fun kap hkap => ?_
        have st7 := back rfl (st6.ext e7 z7) z7.sub
        have hp7 : escPV (escGo 0 false c) = pre ++ (.tup [.int i, .str [92, cc]]) :: escPV (escGo (i + 1) false t) := hpre
        have hlen7 : (escPV (escGo (i + 1) false t)).length = (escGo (i + 1) false t).length := by simp [escPV]
        refine YP.intro x6 w6 e7 z7 hZw (by rw [← hlen7]; exact cutLast hp7) r7 fun _ s'' hkeep bs'' => hkap s'' ?_
        have stw := st7.wake ho h0 (fun b o h e => hkeep b o (h.imp id fun w => .inl w) e) bs''
        have en7 : s7.heap.get? en = s4.heap.get? en := by rw [he4]; exact e7.keep' _ _ (en6.trans he4)
        have it7 : s7.heap.get? it = s4.heap.get? it := by rw [it4]; exact e7.keep' _ _ (it6.trans it4)
        have enw : s''.heap.get? en = s4.heap.get? en := by rw [he4]; exact hkeep _ _ (.inr (hwe _ (.inl rfl))) (en7.trans he4)
        have itw : s''.heap.get? it = s4.heap.get? it := by rw [it4]; exact hkeep _ _ (.inr (hwe _ (.inr rfl))) (it7.trans it4)
        refine GW.cons (GW.wp (assignConst (pv := .bool false) (sc := dIter.scope) hsc stw (fun {Q} hv => wpAny_Constant_bool (hv _ s''.toks fun Z h => by simp [Rep])) rfl (fun _ => rfl) fun s8 z8 g8 st8 => ?_))
        refine GW.nil (GW.nil (next false _ (pre ++ [.tup [.int i, .str [92, cc]]]) s'' s8 (by rw [hp7]; simp) st8 ⟨rfl, rfl, rfl, trivial⟩ ?_ ?_ (g8.ext.wide (fun b w => .inl (.inl w)) (fun _ h => .inl h))))
        · exact (g8.ext.keep en _ (fun q => hL2 _ q (.inl rfl)) (enw.trans he4)).trans he4.symm
        · exact (g8.ext.keep it _ (fun q => hL2 _ q (.inr rfl)) (itw.trans it4)).trans it4.symm
      | false =>
        rw [if_neg Bool.false_ne_true]
        refine GW.cons (GW.if_ ((EvT.cmp (a := .str [cc]) (b := .str [92]) (Ev.nm rfl) (Ev.cStr rfl) CmpV.eqS rfl).run F _ Z _ s6 _ _ hsc (by exact ok1 _ rfl rfl) st6 fun s7 Z7 e7 z7 => ?_))
        have st7 := back rfl (st6.ext e7 z7) z7.sub
        have x7 : ExtG (wr1 2 (fun b => b = F.L) s) no s₀ s7 := x6.trans e7 (fun _ h => h.elim) (fun _ h => h.elim)
        have en7 : s7.heap.get? en = s4.heap.get? en := by rw [he4]; exact e7.keep' _ _ (en6.trans he4)
        have it7 : s7.heap.get? it = s4.heap.get? it := by rw [it4]; exact e7.keep' _ _ (it6.trans it4)
        have w7 := lw s7 _ st7 ⟨_, en7.trans he4⟩ ⟨_, it7.trans it4⟩
        have hcmp : (([cc] : Tx) == [92]) = (cc == 92) := by rw [Bool.eq_iff_iff]; simp
        rw [hcmp]
        cases hq : cc == 92 with
        | true =>
          have hp7 : escPV (escGo 0 false c) = pre ++ escPV (escGo (i + 1) true t) := by rw [hpre]; simp only [escGo, hq, if_true]
          have hn7 : (escGo i false (cc :: t)).length = (escGo (i + 1) true t).length := by simp only [escGo, hq, if_true]
          rw [if_pos rfl, hn7]
          refine GW.cons (GW.wp (assignConst (pv := .bool true) (sc := dIter.scope) hsc st7 (fun {Q} hv => wpAny_Constant_bool (hv _ s7.toks fun Z h => by simp [Rep])) rfl (fun _ => rfl) fun s8 z8 g8 st8 => ?_))
          refine GW.nil (GW.nil (GW.nil (next true _ pre s₀ s8 hp7 st8 ⟨rfl, rfl, rfl, trivial⟩ ?_ ?_ (x7.trans g8.ext (fun b w => .inl (.inl w)) (fun _ h => h.elim)))))
          · exact (g8.ext.keep en _ (fun q => hL2 _ q (.inl rfl)) (en7.trans he4)).trans he4.symm
          · exact (g8.ext.keep it _ (fun q => hL2 _ q (.inr rfl)) (it7.trans it4)).trans it4.symm
        | false =>
          have hp7 : escPV (escGo 0 false c) = pre ++ (.tup [.int i, .str [cc]]) :: escPV (escGo (i + 1) false t) := by rw [hpre]; simp [escGo, hq, escPV]
          have hn7 : (escGo i false (cc :: t)).length = (escGo (i + 1) false t).length + 1 := by simp [escGo, hq]
          have hlen7 : (escPV (escGo (i + 1) false t)).length = (escGo (i + 1) false t).length := by simp [escPV]
          rw [if_neg Bool.false_ne_true, hn7]
          refine GW.cons (GW.exprYield (n := (escGo (i + 1) false t).length) (hw.split rfl) (hw.guard rfl) st7.inter (by rw [show F.env.scope = F.sc from rfl, hsc]; rfl) ?_)
          refine (Ev.mkT (xs := [.int i, .str [cc]]) (EvL.cons (Ev.nm rfl) (EvL.cons (Ev.nm rfl) EvL.nil (fun _ => rfl)) (fun _ => rfl)) (by simp)).run F _ Z _ s7 _ _ hsc (by exact ok1 _ rfl rfl) st7 fun v s8 Z8 e8 z8 r8 => fun kap hkap => ?_
          have st8 := back rfl (st7.ext e8 z8) z8.sub
          refine YP.intro x7 w7 e8 z8 hZw (by rw [← hlen7]; exact cutLast hp7) r8 fun _ s'' hkeep bs'' => hkap s'' ?_
          have stw := st8.wake ho h0 (fun b o h e => hkeep b o (h.imp id fun w => .inl w) e) bs''
          have en8 : s8.heap.get? en = s4.heap.get? en := by rw [he4]; exact e8.keep' _ _ (en7.trans he4)
          have it8 : s8.heap.get? it = s4.heap.get? it := by rw [it4]; exact e8.keep' _ _ (it7.trans it4)
          have enw : s''.heap.get? en = s4.heap.get? en := by rw [he4]; exact hkeep _ _ (.inr (hwe _ (.inl rfl))) (en8.trans he4)
          have itw : s''.heap.get? it = s4.heap.get? it := by rw [it4]; exact hkeep _ _ (.inr (hwe _ (.inr rfl))) (it8.trans it4)
          exact GW.nil (GW.nil (GW.nil (next false _ (pre ++ [.tup [.int i, .str [cc]]]) s'' s'' (by rw [hp7]; simp) stw ⟨rfl, rfl, rfl, trivial⟩ enw itw (ExtG.refl _ _ _))))
  · simp [escPV]
  · exact (((g1.trans g2).ext.wide (fun b w => .inl (.inl w)) (fun _ h => .inl h)).trans e3 (fun _ h => h.elim) (fun _ h => h.elim))

/-- what the intervals are -/
inductive Grp : Option Int → List Int → List Int → Bool → Prop
  | nil {l : Option Int} : Grp l [] [] true
  | stop {l : Option Int} {t : List Int} : Grp l (127 :: t) [] true
  | inf {l : Int} {t : List Int} {N : Nat} : Grp (some l) (0 :: t) (List.replicate (N + 1) l) false
  | cons {l : Option Int} {x : Int} {t xs : List Int} {e : Bool} : x ≠ 127 → x ≠ 0 → Grp (some x) t xs e → Grp l (x :: t) (x :: xs) e
def optP : Option Int → PV
  | none => .none
  | some i => .int i
theorem assignName {F : Fi} {Z W : Addr → Prop} {σ : Loc} {s : Shared} {sc : Scope} {A : Around} {x y : Str} {pv : PV} {p q pos : Pos} {Q : Flow → Shared → Prop} {E : Value → Shared → Prop} (hsc : F.sc = sc) (st : St G F Z W σ s)
    (hy : σ.lookup y = some (.val pv)) (hp : scal pv = true) (hd : (y == ("__debug__" : Str)) = false) (hk : sc.names.lookup x = some .local) (hs : ∀ env, swapsWith (.Name y q) (some (.Name x p)) pos.line env = pure false)
    (h : ∀ s', s'.heap.objs.size = s.heap.objs.size → Gr Z W s Z W s' → St G F Z W ((x, .val pv) :: σ) s' → Q .next s') : wpAny (model G.prog G.w) A (exec (.Assign [.Name x p] (.Name y q) pos) F.env) Q E s := by
  obtain ⟨v, hv, hr⟩ := st.vals y pv hy
  exact assignConst hsc st (fun {Q} hq => st.load hv hd (hq v s.toks fun Z h => hr.scal hp)) hk hs h

theorem spec_grp (h1 : 40 ≤ n) (h2 : n ≤ 999) (hcm : valOf G.p ("CHAR_MAX" : Str) = some (.int 127)) (gs : List Int) (xs : List Int) (ends : Bool) (hl : gs.length ≤ 1000000) (hg : Grp none gs xs ends) : GSpec G n 1 dGrp (slots ["grouping"] [.list (its gs)]) (its xs) ends := by
  intro F Z s hsc ho h0 hZ0 st
  have ok := over_func (n := n) h1 h2 (body := dGrp.body) (env := F.env)
  rw [show (its xs).length = xs.length from by simp [its]]
  refine GW.cons (GW.wp (assignConst (pv := .none) (sc := dGrp.scope) hsc st (fun {Q} hv => wpAny_Constant_none (hv _ s.toks fun Z h => by simp [Rep])) rfl (fun _ => rfl) fun s1 z1 g1 st1 => ?_))
  refine GW.cons (GW.for_ (fun _ => rfl) ?_)
  obtain ⟨va, hva, hra⟩ := st1.vals ("grouping" : Str) (.list (its gs)) rfl
  simp only [Rep] at hra
  obtain ⟨la, vs, rfl, hza, hLa, hrs⟩ := hra
  refine st1.load hva (by decide) (wpAny_pyIter_list hLa ?_)
  rw [z1]
  let it := s.heap.objs.size
  have hvl : vs.length = gs.length := by rw [hrs.length]; simp [its]
  have hvi : ∀ (i : Nat) (x : Int), gs[i]? = some x → ∃ t : Tok, vs[i]? = some (Value.int x t) := fun i x hx => by
    obtain ⟨v, h3, h4⟩ := hrs.get (i := i) (x := PV.int x) (by simp only [its, List.getElem?_map, hx, Option.map_some])
    simp only [Rep] at h4
    obtain ⟨t, rfl⟩ := h4
    exact ⟨t, h3⟩
  have e2 := Ext0.push s1 { cls := .type "list_iterator", data := .fields #[.ref la, .int 0 0] } s1.toks
  have st2 := st1.ext e2 (ZG.same st1.zlt e2)
  have dsz : ∀ b, s.heap.objs.size ≤ b → G.base.get? b = none := fun b hb => by
    cases e : G.base.get? b with
    | none => rfl
    | some o => exact absurd (Heap.lt_size (st.base b o e)) (Nat.not_lt.mpr hb)
  have hLlt : F.L < s.heap.objs.size := live_lt (st.wlt F.L rfl)
  have hZlt : ∀ b, Z b → b < s.heap.objs.size := fun b z => live_lt (st.zlt b z)
  have hL2 : ∀ b, b = F.L → ¬ (b = it) := fun b e q => absurd hLlt (Nat.not_lt.mpr (Nat.le_of_eq (q.symm.trans e)))
  have hZ2 : ∀ b, Z b → ¬ (b = it) := fun b z q => absurd (hZlt b z) (Nat.not_lt.mpr (Nat.le_of_eq q.symm))
  have hla : la ≠ it := hZ2 la hza
  have h02 : ∀ b, (b = it) → F.h0.get? b = none := fun b q => by rw [h0]; exact dsz b (Nat.le_of_eq q.symm)
  -- the place behind the iterator is nobody's: only the iterator's own place is asked for
  refine GC.induct (fun k n' s₀ s' => ∃ (rest cur : List Int) (i : Nat) (last : Option Int) (pre : List Int), k = rest.length ∧ i + rest.length = gs.length ∧ gs.drop i = rest ∧ n' = cur.length ∧ Grp last rest cur ends ∧ xs = pre ++ cur ∧
      St G F Z (fun b => b = F.L) [("last_interval", .val (optP last)), ("grouping", .val (.list (its gs)))] s' ∧ s'.heap.IsListIter it la i ∧ s'.heap.IsList la vs.toArray ∧ ExtG (wr1 1 (fun b => b = F.L) s) no s₀ s') ?_
      ⟨gs, xs, 0, none, [], rfl, Nat.zero_add _, rfl, rfl, hg, rfl, st2.weak (subL.out ⟨rfl, rfl, trivial⟩), ⟨_, by rw [show it = s1.heap.objs.size from z1.symm]; exact Heap.get?_push_size _ rfl, rfl, rfl⟩, hLa.push _, ?_⟩
  · rintro k n' s₀ s' ⟨rest, cur, i, last, pre, rfl, hil, hdr, rfl, hgr, hpre, stl, hitl, hLl, hext⟩ ih
    have hwb : ∀ b, wr1 1 (fun b => b = F.L) s b → b = F.L ∨ b = it := fun b h => h.imp id fun h => Nat.le_antisymm (Nat.lt_succ_iff.mp h.2) h.1
    have hwe : ∀ b, b = it → wr1 1 (fun b => b = F.L) s b := fun b h => .inr (h ▸ ⟨Nat.le_refl _, Nat.lt_succ_self _⟩)
    have hZw : ∀ b, Z b → ¬ wr1 1 (fun b => b = F.L) s b := fun b z w => (hwb b w).elim (fun q => st.disj b z q) (hZ2 b z)
    have lw : ∀ (s5 : Shared) (σ : Loc), St G F Z (fun b => b = F.L) σ s5 → (∃ o, s5.heap.get? it = some o) → Liv (wr1 1 (fun b => b = F.L) s) s5.heap := fun s5 σ st5 q1 b w => by
      rcases hwb b w with h | h
      · exact st5.wlt b h
      · exact h ▸ q1
    have nz : ∀ {σ : Loc} {s5 s6 : Shared} {Z6 : Addr → Prop}, St G F Z (fun b => b = F.L) σ s5 → Ext0 s5 s6 → St G F Z (fun b => b = F.L) σ s6 := fun st5 e6 => st5.ext e6 (ZG.same st5.zlt e6)
    refine GC.for_ fun fr hw => ?_
    have ok1 := fun (c : Code) (hc : c.weight = 0) (hu : c.cUnits = 0) => over_one h1 h2 hw (c := c) hc hu
    have okA := fun (c : Code) (hc : c.weight = 0) (hu : c.cUnits = 0) => (show ((Amax n).in1.over c [fr]).handled = none from (ok1 c hc hu).1)
    cases rest with
    | nil =>
      cases hgr
      have hi : i = vs.length := by simp at hil; omega
      refine wpAny_pyNext_list_end (okA _ rfl rfl) hitl hLl (by rw [hi]; simp) fun h'' hb => GC.block fun fr' hw' => GW.nil ?_
      have e4 : ExtG (fun b => b = it) no s' { s' with heap := h'' } := ⟨fun b o nb e => hb b o nb e, Nat.le_refl _, fun _ _ _ e => e, rfl, fun x => x⟩
      exact GW.nil ⟨fun v q => (by cases q), rfl, rfl, hext.trans e4 (fun b w => .inl (hwe b w)) (fun _ h => h.elim)⟩
    | cons y t =>
      have hilt : i < gs.length := by simp at hil; omega
      have hyc : gs[i]? = some y := by
        have := congrArg List.head? hdr
        simpa [List.head?_drop] using this
      have hdt : gs.drop (i + 1) = t := by rw [← List.drop_drop, hdr]; rfl
      obtain ⟨ty, hvy⟩ := hvi i y hyc
      refine wpAny_pyNext_list_item hitl hLl (x := .int y ty) (by simpa using hvy) fun h'' hit2 hs2 => ?_
      refine wpAny_of_eq (a := ()) rfl ?_
      have e3' : ExtG (fun b => b = it) no s' { s' with heap := h'' } := ⟨fun b o nb e => (hs2.2 b nb).trans e, Nat.le_refl _, fun _ _ _ e => e, rfl, fun x => x⟩
      have z3 : ZG Z s' Z { s' with heap := h'' } := ⟨fun _ z => z, fun _ z => .inl z, fun b z => let ⟨o, e⟩ := stl.zlt b z; ⟨o, e3'.keep b o (hZ2 b z) e⟩⟩
      have st3 := stl.step e3' z3 hL2 hZ2 h02 (noTrue ho)
      refine (AsV.name (sc := dGrp.scope) (own := none) (pv := .int y) (.inl rfl)).run F _ Z _ _ (.int y ty) _ _ hsc ho (by exact okA _ rfl rfl) st3 (by simp [Rep]) fun s4 g4 st4 => ?_
      have st5 := st4.weak (τ := [("interval", .val (.int y)), ("last_interval", .val (optP last)), ("grouping", .val (.list (its gs)))]) (subL.out ⟨rfl, rfl, rfl, trivial⟩)
      have x4 : ExtG (wr1 1 (fun b => b = F.L) s) no s₀ s4 := (hext.trans e3' (fun b w => .inl (hwe b w)) (fun _ h => h.elim)).trans g4.ext (fun b w => .inl (.inl w)) (fun _ h => h.elim)
      have hL3 : (⟨h'', s'.gens, s'.drawn, s'.toks, s'.os⟩ : Shared).heap.IsList la vs.toArray := hLl.at fun o e => e3'.keep la o hla e
      have hL4 : s4.heap.IsList la vs.toArray := hL3.at fun o e => g4.ext.keep la o (st3.disj la hza) e
      obtain ⟨oi, hoi, hoi'⟩ := hit2
      have it4 : s4.heap.get? it = some oi := g4.ext.keep it _ (fun q => hL2 _ q rfl) hoi
      refine GW.cons (GW.if_ ((EvT.cmp (a := .int y) (b := .int 127) (Ev.nm rfl) (Ev.const rfl (by decide) hcm fun v hv => reads_int hv) CmpV.eqI rfl).run F _ Z _ _ _ _ hsc (by exact ok1 _ rfl rfl) st5 fun s6 Z6 e6 z6 => ?_))
      have st6 := nz (Z6 := Z) st5 e6
      have x6 : ExtG (wr1 1 (fun b => b = F.L) s) no s₀ s6 := x4.trans e6 (fun _ h => h.elim) (fun _ h => h.elim)
      have it6 : s6.heap.get? it = some oi := e6.keep' _ _ it4
      have hL6 : s6.heap.IsList la vs.toArray := hL4.at fun o e => e6.keep' _ _ e
      cases hgr with
      | stop =>
        rw [if_pos (by decide)]
        exact GW.cons (GW.wp (wpAny_Return_none ⟨fun v q => (by cases q; rfl), rfl, rfl, x6⟩))
      | @inf l _ N =>
        rw [if_neg (by decide)]
        refine GW.nil (GW.cons (GW.if_ ((EvT.cmp (a := .int 0) (b := .int 0) (Ev.nm rfl) Ev.cInt CmpV.eqI rfl).run F _ Z _ s6 _ _ hsc (by exact ok1 _ rfl rfl) st6 fun s7 Z7 e7 z7 => ?_)))
        have st7 := nz (Z6 := Z) st6 e7
        have x7 : ExtG (wr1 1 (fun b => b = F.L) s) no s₀ s7 := x6.trans e7 (fun _ h => h.elim) (fun _ h => h.elim)
        have it7 : s7.heap.get? it = some oi := e7.keep' _ _ it6
        rw [if_pos (by decide)]
        refine GW.cons (GW.if_ ((EvT.cmp (a := .int l) (b := .none) (Ev.nm rfl) Ev.cNone (CmpV.is rfl) rfl).run F _ Z _ s7 _ _ hsc (by exact ok1 _ rfl rfl) st7 fun s8 Z8 e8 z8 => ?_))
        have st8 := nz (Z6 := Z) st7 e8
        have x8 : ExtG (wr1 1 (fun b => b = F.L) s) no s₀ s8 := x7.trans e8 (fun _ h => h.elim) (fun _ h => h.elim)
        have it8 : s8.heap.get? it = some oi := e8.keep' _ _ it7
        rw [if_neg (show ¬ pis (.int l) .none = true from Bool.false_ne_true)]
        refine GW.nil (GW.cons (GW.while_ ?_))
        refine GC.induct (fun k n' s₀ s' => k = n' ∧ ∃ (m : Nat) (pre' : List Int), n' = m + 1 ∧ xs = pre' ++ List.replicate (m + 1) l ∧ St G F Z (fun b => b = F.L) [("last_interval", .val (.int l)), ("grouping", .val (.list (its gs)))] s' ∧
          (∃ o, s'.heap.get? it = some o) ∧ ExtG (wr1 1 (fun b => b = F.L) s) no s₀ s') ?_ ⟨rfl, N, pre, by simp, hpre, st8.weak (subL.out ⟨rfl, rfl, trivial⟩), ⟨oi, it8⟩, x8⟩
        rintro k n' s₀ s' ⟨rfl, m, pre', rfl, hp', st', itl, hx'⟩ ih2
        refine GC.while_ fun fr' hw' => ?_
        have ok2 := fun (c : Code) (hc : c.weight = 0) (hu : c.cUnits = 0) => over_two h1 h2 hw hw' rfl rfl (c := c) hc hu
        refine (EvT.val (x := .bool true) Ev.cBool rfl (fun _ h => by cases h) (fun _ h => by cases h) (fun _ => rfl)).run F _ Z _ s' _ _ hsc (by exact ok2 _ rfl rfl) st' fun s9 Z9 e9 z9 => ⟨rfl, ?_⟩
        have st9 := nz (Z6 := Z) st' e9
        have x9 : ExtG (wr1 1 (fun b => b = F.L) s) no s₀ s9 := hx'.trans e9 (fun _ h => h.elim) (fun _ h => h.elim)
        have w9 := lw s9 _ st9 (let ⟨o, q⟩ := itl; ⟨o, e9.keep' _ _ q⟩)
        have hpi : its xs = its pre' ++ PV.int l :: its (List.replicate m l) := by rw [hp', List.replicate_succ]; simp [its]
        have hpl : (its (List.replicate m l)).length = m := by simp [its]
        refine GW.cons (GW.exprYield (n := m) (hw'.split (hw.split rfl)) (hw'.guard (hw.guard rfl)) st9.inter (by rw [show F.env.scope = F.sc from rfl, hsc]; rfl) ?_)
        refine (Ev.nm (pv := .int l) rfl (by decide)).run F _ Z _ s9 _ _ hsc (by exact ok2 _ rfl rfl) st9 fun v s10 Z10 e10 z10 r10 => fun kap hkap => ?_
        have st10 := nz (Z6 := Z) st9 e10
        refine YP.intro x9 w9 e10 z10 hZw (by have := cutLast hpi; rw [hpl] at this; exact this) r10 fun hne s'' hkeep bs'' => hkap s'' ?_
        obtain ⟨m', rfl⟩ : ∃ m', m = m' + 1 := ⟨m - 1, by have := hne.elim (fun h => by cases h) id; omega⟩
        have stw := st10.wake ho h0 (fun b o h e => hkeep b o (h.imp id fun w => .inl w) e) bs''
        exact GW.nil (ih2 (m' + 1) _ s'' s'' (Nat.lt_succ_self _) ⟨rfl, m', pre' ++ [l], rfl, by rw [hp']; simp [List.replicate_succ], stw, (let ⟨o, q⟩ := itl; ⟨o, hkeep it o (.inr (hwe it rfl)) (e10.keep' _ _ (e9.keep' _ _ q))⟩), ExtG.refl _ _ _⟩)
      | @cons _ _ _ cur' _ hy1 hy2 hgr' =>
        have hn1 : (y == (127 : Int)) = false := beq_eq_false_iff_ne.mpr hy1
        have hn2 : (y == (0 : Int)) = false := beq_eq_false_iff_ne.mpr hy2
        rw [hn1, if_neg Bool.false_ne_true]
        refine GW.nil (GW.cons (GW.if_ ((EvT.cmp (a := .int y) (b := .int 0) (Ev.nm rfl) Ev.cInt CmpV.eqI rfl).run F _ Z _ s6 _ _ hsc (by exact ok1 _ rfl rfl) st6 fun s7 Z7 e7 z7 => ?_)))
        have st7 := nz (Z6 := Z) st6 e7
        have x7 : ExtG (wr1 1 (fun b => b = F.L) s) no s₀ s7 := x6.trans e7 (fun _ h => h.elim) (fun _ h => h.elim)
        have it7 : s7.heap.get? it = some oi := e7.keep' _ _ it6
        have hL7 : s7.heap.IsList la vs.toArray := hL6.at fun o e => e7.keep' _ _ e
        rw [hn2, if_neg Bool.false_ne_true]
        refine GW.nil ?_
        have w7 := lw s7 _ st7 ⟨_, it7⟩
        have hpi : its xs = its pre ++ PV.int y :: its cur' := by rw [hpre]; simp [its]
        have hpl : (its cur').length = cur'.length := by simp [its]
        refine GW.cons (GW.exprYield (n := cur'.length) (hw.split rfl) (hw.guard rfl) st7.inter (by rw [show F.env.scope = F.sc from rfl, hsc]; rfl) ?_)
        refine (Ev.nm (pv := .int y) rfl (by decide)).run F _ Z _ s7 _ _ hsc (by exact ok1 _ rfl rfl) st7 fun v s8 Z8 e8 z8 r8 => fun kap hkap => ?_
        have st8 := nz (Z6 := Z) st7 e8
        refine YP.intro x7 w7 e8 z8 hZw (by have := cutLast hpi; rw [hpl] at this; exact this) r8 fun hne s'' hkeep bs'' => hkap s'' ?_
        have stw := st8.wake ho h0 (fun b o h e => hkeep b o (h.imp id fun w => .inl w) e) bs''
        have itw : s''.heap.get? it = some oi := hkeep it _ (.inr (hwe it rfl)) (e8.keep' _ _ it7)
        have hLw : s''.heap.IsList la vs.toArray := hL7.at fun o e => hkeep la o (.inl hza) (e8.keep' _ _ e)
        refine GW.cons (GW.wp (assignName (sc := dGrp.scope) (pv := .int y) hsc stw rfl rfl (by decide) rfl (fun _ => rfl) fun s9 z9 g9 st9 => ?_))
        refine GW.nil (ih t.length cur'.length s'' s9 (by simp) ⟨t, cur', i + 1, some y, pre ++ [y], rfl, by simp at hil; omega, hdt, rfl, hgr', by rw [hpre]; simp, st9.weak (subL.out ⟨rfl, rfl, trivial⟩), ⟨oi, ?_, hoi'⟩, ?_, g9.ext.wide (fun b w => .inl (.inl w)) (fun _ h => .inl h)⟩)
        · exact g9.ext.keep it _ (fun q => hL2 _ q rfl) itw
        · exact hLw.at fun o e => g9.ext.keep la o (stw.disj la hza) e
  · exact ((g1.ext.wide (fun b w => .inl (.inl w)) (fun _ h => .inl h)).trans e2 (fun _ h => h.elim) (fun _ h => h.elim))
end
end Mine
namespace Mine

theorem len1 {P : List Value → Prop} {vs : List Value} (h : vs.length = 1) (k : ∀ a, P [a]) : P vs := by
  match vs, h with
  | [a], _ => exact k a
theorem len2 {P : List Value → Prop} {vs : List Value} (h : vs.length = 2) (k : ∀ a b, P [a, b]) : P vs := by
  match vs, h with
  | [a, b], _ => exact k a b
def stAt (b : List Stmt) (i : Nat) : Stmt := b.getD i (.Pass default)
def forTgt : Stmt → Expr
  | .For t _ _ _ _ => t
  | _ => default
def forBody : Stmt → List Stmt
  | .For _ _ b _ _ => b
  | .While _ b _ _ => b
  | .If _ b _ _ => b
  | _ => []
def whTest : Stmt → Expr
  | .While t _ _ _ => t
  | _ => default

theorem seqIndex_0 {n : Nat} (h : 0 < n) : seqIndex? 0 n = some 0 := by
  unfold seqIndex?
  simp; omega
theorem seqIndex_last {n : Nat} (h : 0 < n) : seqIndex? (-1) n = some (n - 1) := by
  unfold seqIndex?
  simp only [show (-1 : Int) < 0 from by decide, if_true]
  have h1 : (-1 : Int) + n = ((n - 1 : Nat) : Int) := by omega
  rw [h1]
  simp; omega
theorem seqIndex_nat {n i : Nat} (h : i < n) : seqIndex? (i : Int) n = some i := by
  unfold seqIndex?
  simp; omega
theorem getI_nat {α : Type} {l : List α} {i : Nat} : getI l (i : Int) = l[i]? := by
  unfold getI
  by_cases h : i < l.length
  · rw [seqIndex_nat h]; rfl
  · rw [List.getElem?_eq_none (by omega)]
    cases e : seqIndex? (i : Int) l.length with
    | none => rfl
    | some j =>
      have := seqIndex_spec e
      omega
theorem getI_last {α : Type} {l : List α} : getI l (-1) = l.getLast? := by
  unfold getI
  by_cases h : 0 < l.length
  · rw [seqIndex_last h, List.getLast?_eq_getElem?]; rfl
  · have : l = [] := List.length_eq_zero_iff.mp (by omega)
    subst this
    rfl

/-! _ellipsis_match -/
abbrev dots : Tx := [46, 46, 46]
def ellMid (got : Tx) (hi : Nat) : List Tx → Nat → Bool
  | [], _ => true
  | w :: ws, lo => match findGo w hi lo (got.drop lo) with
    | none => false
    | some k => ellMid got hi ws (k + w.length)
def ellC (got : Tx) (lo hi : Nat) (ws : List Tx) : Bool := if hi < lo then false else ellMid got hi ws lo
def ellB (got : Tx) (lo : Nat) (ws : List Tx) : Bool := if (ws.getLastD []).isEmpty then ellC got lo got.length ws else if suffixB (ws.getLastD []) got then ellC got lo (got.length - (ws.getLastD []).length) ws.dropLast else false
def ellA (got : Tx) (ws : List Tx) : Bool := if (ws.headD []).isEmpty then ellB got 0 ws else if prefixB (ws.headD []) got then ellB got (ws.headD []).length ws.tail else false
def ellM (want got : Tx) : Bool := if subIn dots want then ellA got (splitE dots want) else want == got

theorem findGo_le (sub : Tx) (hi : Nat) : ∀ (x : Tx) (i k : Nat), findGo sub hi i x = some k → i ≤ k ∧ k + sub.length ≤ hi := by
  intro x
  induction x with
  | nil =>
    intro i k h
    rw [findGo_eq] at h
    split at h
    · rename_i q; cases h; exact ⟨Nat.le_refl _, of_decide_eq_true (Bool.and_eq_true_iff.mp q).1⟩
    · cases h
  | cons y t ih =>
    intro i k h
    rw [findGo_eq] at h
    split at h
    · rename_i q; cases h; exact ⟨Nat.le_refl _, of_decide_eq_true (Bool.and_eq_true_iff.mp q).1⟩
    · have := ih (i + 1) k h
      omega
theorem split_one (sp : Tx) : ∀ (x : Tx) (k : Nat) (cur : Tx), 1 ≤ (splitGo sp k cur x).length
  | [], _, _ => by simp [splitGo]
  | y :: t, 0, cur => by
    simp only [splitGo]
    split
    · simp
    · exact split_one sp t 0 _
  | y :: t, k + 1, cur => by
    simp only [splitGo]
    exact split_one sp t k cur
theorem split_two (sp : Tx) (hsp : sp ≠ []) : ∀ (x : Tx) (cur : Tx), subIn sp x = true → 2 ≤ (splitGo sp 0 cur x).length
  | [], cur, h => by
    cases sp with
    | nil => exact absurd rfl hsp
    | cons => simp [subIn, prefixB] at h
  | y :: t, cur, h => by
    simp only [splitGo]
    split
    · have := split_one sp t (sp.length - 1) []
      simp only [List.length_cons]; omega
    · rename_i q
      simp only [subIn, Bool.or_eq_true] at h
      exact split_two sp hsp t _ (h.resolve_left q)

section
variable {G : Gc} {n : Nat} {σ : Loc}
set_option maxHeartbeats 1000000

/-- what is known of the top -/
structure Top1 (G : Gc) : Prop where
  nb : NoB G
  ell : valOf G.p ("ELLIPSIS_MARKER" : Str) = some (.str (mkS dots))
  cm : valOf G.p ("CHAR_MAX" : Str) = some (.int 127)

theorem Ex.fin {sc : Scope} {τ' : Loc} (h : subL τ' σ) : Ex G n sc σ [] (.next τ') := Ex.out Ex.nil h.out
theorem EvT.to {sc : Scope} {e : Expr} {b b' : Bool} (h1 : EvT G n sc σ e b) (h : b = b') : EvT G n sc σ e b' := h ▸ h1
theorem Ev.to {sc : Scope} {e : Expr} {b b' : PV} (h1 : Ev G n sc σ e b) (h : b = b') : Ev G n sc σ e b' := h ▸ h1
def bout (b : Bool) : Out := match b with
  | true => .next []
  | false => .ret (.bool false)
theorem ellMid_none {got w : Tx} {hi lo : Nat} {ws : List Tx} (h : findGo w hi lo (got.drop lo) = none) : ellMid got hi (w :: ws) lo = false := by simp only [ellMid, h]
theorem ellMid_some {got w : Tx} {hi lo k : Nat} {ws : List Tx} (h : findGo w hi lo (got.drop lo) = some k) : ellMid got hi (w :: ws) lo = ellMid got hi ws (k + w.length) := by simp only [ellMid, h]

theorem ell_for (got : Tx) (hi : Nat) (hhi : hi ≤ got.length) (hl : got.length ≤ 1000000) (nb : NoB G) : ∀ (ws : List Tx) (lo : Nat), lo ≤ hi → (∀ w ∈ ws, w.length ≤ 1000000) →
    ExF G n dEll.scope [("startpos", .val (.int lo)), ("endpos", .val (.int hi)), ("got", .val (.str got))] (forTgt (stAt dEll.body 9)) (sts ws) true (forBody (stAt dEll.body 9)) [] (bout (ellMid got hi ws lo)) := by
  intro ws
  induction ws with
  | nil =>
    intro lo hlo hw
    exact ExF.nil (Ex.fin trivial)
  | cons w ws ih =>
    intro lo hlo hw
    have hwl := hw w (.head _)
    cases hf : findGo w hi lo (got.drop lo) with
    | none =>
      have hv : findL got w lo hi = -1 := by unfold findL; rw [hf]
      rw [ellMid_none hf]
      refine ExF.ret (AsV.name (.inl rfl)) (Ex.cons (Ex1.assign (Ev.to (Ev.methS PySem.F.slot_str_find PySem.F.type_str_find (Ev.nm rfl) (EvL.cons (Ev.nm rfl) (EvL.cons (Ev.nm rfl) (EvL.cons (Ev.nm rfl) EvL.nil (fun _ => rfl)) (fun _ => rfl)) (fun _ => rfl)) (CallV.find4 hlo hhi) (fun _ => rfl) (fun _ => rfl) rfl (fun _ _ => rfl) (fun _ _ => rfl)) (congrArg PV.int hv)) (.inl rfl) (fun _ => rfl)) ?_)
      exact Ex.stop (Ex1.if_ (c := true) (EvT.cmp (Ev.nm rfl) Ev.cInt CmpV.ltI rfl) (Ex.stop (Ex1.ret Ev.cBool) rfl)) rfl
    | some k =>
      obtain ⟨hk1, hk2⟩ := findGo_le w hi _ lo k hf
      have hv : findL got w lo hi = (k : Int) := by unfold findL; rw [hf]
      rw [ellMid_some hf]
      refine ExF.next (τ' := [("startpos", .val (.int ((k + w.length : Nat) : Int))), ("endpos", .val (.int hi)), ("got", .val (.str got))]) (AsV.name (.inl rfl)) (Ex.cons (Ex1.assign (Ev.to (Ev.methS PySem.F.slot_str_find PySem.F.type_str_find (Ev.nm rfl) (EvL.cons (Ev.nm rfl) (EvL.cons (Ev.nm rfl) (EvL.cons (Ev.nm rfl) EvL.nil (fun _ => rfl)) (fun _ => rfl)) (fun _ => rfl)) (CallV.find4 hlo hhi) (fun _ => rfl) (fun _ => rfl) rfl (fun _ _ => rfl) (fun _ _ => rfl)) (congrArg PV.int hv)) (.inl rfl) (fun _ => rfl)) ?_)
        (ih (k + w.length) hk2 fun x hx => hw x (.tail _ hx))
      refine Ex.cons (Ex1.if_ (c := false) (EvT.to (EvT.cmp (Ev.nm rfl) Ev.cInt CmpV.ltI rfl) (decide_eq_false (by omega))) Ex.nil) ?_
      exact Ex.cons (Ex1.aug rfl (Ev.callB nb (by decide +kernel) (by decide) (by decide) (by decide) rfl (EvL.cons (Ev.nm rfl) EvL.nil (fun _ => rfl)) (CallV.lenS hwl) (fun _ _ => rfl) (fun _ _ => rfl)) InV.addI (.inl rfl)) (Ex.fin ⟨rfl, rfl, rfl, trivial⟩)

theorem ell_C (got : Tx) (lo hi : Nat) (ws : List Tx) (hhi : hi ≤ got.length) (hl : got.length ≤ 1000000) (hw : ∀ w ∈ ws, w.length ≤ 1000000) (nb : NoB G) :
    Ex G n dEll.scope [("startpos", .val (.int lo)), ("endpos", .val (.int hi)), ("got", .val (.str got)), ("ws", .own (sts ws))] (dEll.body.drop 8) (.ret (.bool (ellC got lo hi ws))) := by
  by_cases h : hi < lo
  · have : ellC got lo hi ws = false := by unfold ellC; rw [if_pos h]
    rw [this]
    exact Ex.stop (Ex1.if_ (c := true) (EvT.to (EvT.cmp (Ev.nm rfl) (Ev.nm rfl) CmpV.gtI rfl) (decide_eq_true (by omega))) (Ex.stop (Ex1.ret Ev.cBool) rfl)) rfl
  · have : ellC got lo hi ws = ellMid got hi ws lo := by unfold ellC; rw [if_neg h]
    rw [this]
    refine Ex.cons (Ex1.if_ (c := false) (EvT.to (EvT.cmp (Ev.nm rfl) (Ev.nm rfl) CmpV.gtI rfl) (decide_eq_false (by omega))) Ex.nil) (Ex.freeze (x := "ws") (xs := sts ws) rfl ?_)
    have key := ell_for (G := G) (n := n) got hi hhi hl nb ws lo (by omega) hw
    cases hm : ellMid got hi ws lo with
    | true =>
      rw [hm] at key
      exact Ex.cons (Ex1.for_ (EvI.list (Ev.nm rfl)) (ExF.weak key (subL.out ⟨rfl, rfl, rfl, trivial⟩)) (fun _ _ => rfl)) (Ex.stop (Ex1.ret Ev.cBool) rfl)
    | false =>
      rw [hm] at key
      exact Ex.stop (Ex1.for_ (EvI.list (Ev.nm rfl)) (ExF.weak key (subL.out ⟨rfl, rfl, rfl, trivial⟩)) (fun _ _ => rfl)) rfl
theorem sts_len (l : List Tx) : (sts l).length = l.length := by simp [sts]
theorem getLast_D : ∀ {ws : List Tx}, ws ≠ [] → ws.getLast? = some (ws.getLastD [])
  | [], h => absurd rfl h
  | a :: r, _ => rfl
theorem getI_sts_last {ws : List Tx} (h : ws ≠ []) : getI (sts ws) (-1) = some (.str (ws.getLastD [])) := by
  rw [getI_last, sts, List.getLast?_map, getLast_D h]; rfl
theorem getLastD_mem : ∀ {ws : List Tx}, ws ≠ [] → ws.getLastD [] ∈ ws
  | [], h => absurd rfl h
  | a :: r, h => List.getLast_mem h
theorem sts_dropLast : ∀ (l : List Tx), (sts l).eraseIdx (l.length - 1) = sts l.dropLast
  | [] => rfl
  | [x] => rfl
  | x :: y :: r => by
    have := sts_dropLast (y :: r)
    simp only [sts, List.map_cons, List.length_cons, Nat.add_sub_cancel, List.eraseIdx_cons_succ, List.dropLast_cons_cons] at this ⊢
    rw [this]
theorem ell_B (got : Tx) (lo : Nat) (ws : List Tx) (hne : ws ≠ []) (hwl : ws.length ≤ 1000000) (hl : got.length ≤ 1000000) (hw : ∀ w ∈ ws, w.length ≤ 1000000) (nb : NoB G) :
    Ex G n dEll.scope [("startpos", .val (.int lo)), ("endpos", .val (.int got.length)), ("got", .val (.str got)), ("ws", .own (sts ws))] (dEll.body.drop 6) (.ret (.bool (ellB got lo ws))) := by
  have hlast := getI_sts_last hne
  have hwm := hw _ (getLastD_mem hne)
  refine Ex.cons (Ex1.assign (Ev.borrow (x := "ws") (xs := sts ws) rfl (Ev.idxL (Ev.nm rfl) (Ev.neg Ev.cInt) hlast (by rw [sts_len]; exact hwl) (fun _ _ => rfl)) rfl) (.inl rfl) (fun _ => rfl)) ?_
  by_cases h0 : (ws.getLastD []).isEmpty = true
  · have : ellB got lo ws = ellC got lo got.length ws := by unfold ellB; rw [if_pos h0]
    rw [this]
    refine Ex.cons (Ex1.if_ (c := false) (EvT.to (EvT.val (Ev.nm rfl) rfl (fun c e => by cases e; exact hwm) (fun _ e => by cases e) (fun _ => rfl)) (by rw [h0]; rfl)) Ex.nil) ?_
    exact (ell_C got lo got.length ws (Nat.le_refl _) hl hw nb).weak (subL.out ⟨rfl, rfl, rfl, rfl, trivial⟩)
  · have h0' : (ws.getLastD []).isEmpty = false := by simpa using h0
    by_cases h1 : suffixB (ws.getLastD []) got = true
    · have : ellB got lo ws = ellC got lo (got.length - (ws.getLastD []).length) ws.dropLast := by unfold ellB; rw [if_neg h0, if_pos h1]
      rw [this]
      have hle : (ws.getLastD []).length ≤ got.length := of_decide_eq_true (Bool.and_eq_true_iff.mp h1).1
      have hpos : 0 < ws.length := List.length_pos_iff.mpr hne
      refine Ex.cons (τ := [("startpos", .val (.int lo)), ("endpos", .val (.int ((got.length - (ws.getLastD []).length : Nat) : Int))), ("got", .val (.str got)), ("ws", .own (sts ws.dropLast))])
        (Ex1.if_ (c := true) (EvT.to (EvT.val (Ev.nm rfl) rfl (fun c e => by cases e; exact hwm) (fun _ e => by cases e) (fun _ => rfl)) (by rw [h0']; rfl)) ?_) ?_
      · refine Ex.cons (Ex1.if_ (c := true) (EvT.to (EvT.val (Ev.methS PySem.F.slot_str_endswith PySem.F.type_str_endswith (Ev.nm rfl) (EvL.cons (Ev.nm rfl) EvL.nil (fun _ => rfl)) CallV.endswith (fun _ => rfl) (fun _ => rfl) rfl (fun _ _ => rfl) (fun _ _ => rfl)) rfl (fun _ e => by cases e) (fun _ e => by cases e) (fun _ => rfl)) h1) ?_) Ex.nil
        refine Ex.cons (Ex1.aug rfl (Ev.callB nb (by decide +kernel) (by decide) (by decide) (by decide) rfl (EvL.cons (Ev.nm rfl) EvL.nil (fun _ => rfl)) (CallV.lenS hwm) (fun _ _ => rfl) (fun _ _ => rfl)) InV.subI (.inl rfl)) ?_
        refine Ex.cons (Ex1.delItem (xs := sts ws) (k := ws.length - 1) rfl (Ev.neg Ev.cInt) (by decide) (by rw [sts_len]; exact hwl) (by rw [sts_len]; exact seqIndex_last hpos)) (Ex.fin ?_)
        rw [sts_dropLast, show (got.length : Int) - ((ws.getLastD []).length : Int) = ((got.length - (ws.getLastD []).length : Nat) : Int) by omega]
        exact ⟨rfl, rfl, rfl, rfl, trivial⟩
      · exact ell_C got lo (got.length - (ws.getLastD []).length) ws.dropLast (by omega) hl (fun w hx => hw w (List.mem_of_mem_take (by rw [List.dropLast_eq_take] at hx; exact hx))) nb
    · have : ellB got lo ws = false := by unfold ellB; rw [if_neg h0, if_neg h1]
      rw [this]
      refine Ex.stop (Ex1.if_ (c := true) (EvT.to (EvT.val (Ev.nm rfl) rfl (fun c e => by cases e; exact hwm) (fun _ e => by cases e) (fun _ => rfl)) (by rw [h0']; rfl)) ?_) rfl
      exact Ex.stop (Ex1.if_ (c := false) (EvT.to (EvT.val (Ev.methS PySem.F.slot_str_endswith PySem.F.type_str_endswith (Ev.nm rfl) (EvL.cons (Ev.nm rfl) EvL.nil (fun _ => rfl)) CallV.endswith (fun _ => rfl) (fun _ => rfl) rfl (fun _ _ => rfl) (fun _ _ => rfl)) rfl (fun _ e => by cases e) (fun _ e => by cases e) (fun _ => rfl)) (by simpa using h1)) (Ex.stop (Ex1.ret Ev.cBool) rfl)) rfl
theorem ellA_cons (got w : Tx) (ws : List Tx) : ellA got (w :: ws) = if w.isEmpty then ellB got 0 (w :: ws) else if prefixB w got then ellB got w.length ws else false := rfl
theorem ell_A (got : Tx) (w : Tx) (ws : List Tx) (hne : ws ≠ []) (hwl : (w :: ws).length ≤ 1000000) (hl : got.length ≤ 1000000) (hw : ∀ x ∈ w :: ws, x.length ≤ 1000000) (nb : NoB G) :
    Ex G n dEll.scope [("startpos", .val (.int 0)), ("endpos", .val (.int got.length)), ("got", .val (.str got)), ("ws", .own (sts (w :: ws)))] (dEll.body.drop 4) (.ret (.bool (ellA got (w :: ws)))) := by
  have hwm := hw w (.head _)
  refine Ex.cons (Ex1.assign (Ev.borrow (x := "ws") (xs := sts (w :: ws)) (pv := .str w) rfl (Ev.idxL (Ev.nm rfl) Ev.cInt (by unfold getI; rw [seqIndex_0 (by simp [sts])]; rfl) (by rw [sts_len]; exact hwl) (fun _ _ => rfl)) rfl) (.inl rfl) (fun _ => rfl)) ?_
  by_cases h0 : w.isEmpty = true
  · have : ellA got (w :: ws) = ellB got 0 (w :: ws) := by rw [ellA_cons, if_pos h0]
    rw [this]
    refine Ex.cons (Ex1.if_ (c := false) (EvT.to (EvT.val (Ev.nm rfl) rfl (fun c e => by cases e; exact hwm) (fun _ e => by cases e) (fun _ => rfl)) (by rw [h0]; rfl)) Ex.nil) ?_
    exact (ell_B got 0 (w :: ws) (by simp) hwl hl hw nb).weak (subL.out ⟨rfl, rfl, rfl, rfl, trivial⟩)
  · have h0' : w.isEmpty = false := by simpa using h0
    by_cases h1 : prefixB w got = true
    · have : ellA got (w :: ws) = ellB got w.length ws := by rw [ellA_cons, if_neg h0, if_pos h1]
      rw [this]
      refine Ex.cons (τ := [("startpos", .val (.int w.length)), ("endpos", .val (.int got.length)), ("got", .val (.str got)), ("ws", .own (sts ws))])
        (Ex1.if_ (c := true) (EvT.to (EvT.val (Ev.nm rfl) rfl (fun c e => by cases e; exact hwm) (fun _ e => by cases e) (fun _ => rfl)) (by rw [h0']; rfl)) ?_) ?_
      · refine Ex.cons (Ex1.if_ (c := true) (EvT.to (EvT.val (Ev.methS PySem.F.slot_str_startswith PySem.F.type_str_startswith (Ev.nm rfl) (EvL.cons (Ev.nm rfl) EvL.nil (fun _ => rfl)) CallV.startswith (fun _ => rfl) (fun _ => rfl) rfl (fun _ _ => rfl) (fun _ _ => rfl)) rfl (fun _ e => by cases e) (fun _ e => by cases e) (fun _ => rfl)) h1) ?_) Ex.nil
        refine Ex.cons (Ex1.assign (Ev.callB nb (by decide +kernel) (by decide) (by decide) (by decide) rfl (EvL.cons (Ev.nm rfl) EvL.nil (fun _ => rfl)) (CallV.lenS hwm) (fun _ _ => rfl) (fun _ _ => rfl)) (.inl rfl) (fun _ => rfl)) ?_
        exact Ex.cons (Ex1.delItem (xs := sts (w :: ws)) (k := 0) rfl Ev.cInt (by decide) (by rw [sts_len]; exact hwl) (seqIndex_0 (by simp [sts]))) (Ex.fin ⟨rfl, rfl, rfl, rfl, trivial⟩)
      · exact ell_B got w.length ws hne (by simp at hwl; omega) hl (fun x hx => hw x (.tail _ hx)) nb
    · have : ellA got (w :: ws) = false := by rw [ellA_cons, if_neg h0, if_neg h1]
      rw [this]
      refine Ex.stop (Ex1.if_ (c := true) (EvT.to (EvT.val (Ev.nm rfl) rfl (fun c e => by cases e; exact hwm) (fun _ e => by cases e) (fun _ => rfl)) (by rw [h0']; rfl)) ?_) rfl
      exact Ex.stop (Ex1.if_ (c := false) (EvT.to (EvT.val (Ev.methS PySem.F.slot_str_startswith PySem.F.type_str_startswith (Ev.nm rfl) (EvL.cons (Ev.nm rfl) EvL.nil (fun _ => rfl)) CallV.startswith (fun _ => rfl) (fun _ => rfl) rfl (fun _ _ => rfl) (fun _ _ => rfl)) rfl (fun _ e => by cases e) (fun _ e => by cases e) (fun _ => rfl)) (by simpa using h1)) (Ex.stop (Ex1.ret Ev.cBool) rfl)) rfl
theorem split_bound (sp : Tx) : ∀ (x : Tx) (k : Nat) (cur : Tx), ∀ w ∈ splitGo sp k cur x, w.length ≤ cur.length + x.length
  | [], _, cur, w, h => by simp [splitGo] at h; subst h; simp
  | y :: t, 0, cur, w, h => by
    simp only [splitGo] at h
    split at h
    · rcases List.mem_cons.mp h with rfl | h
      · simp
      · have := split_bound sp t _ _ w h
        simp only [List.length_cons, List.length_nil] at this ⊢; omega
    · have := split_bound sp t _ _ w h
      simp only [List.length_cons, List.length_append, List.length_nil] at this ⊢; omega
  | y :: t, k + 1, cur, w, h => by
    simp only [splitGo] at h
    have := split_bound sp t _ _ w h
    simp only [List.length_cons]; omega

theorem fn_ell (T : Top1 G) (hm : dEll ∈ recsOf G.p) (want got : Tx) (h1 : want.length < 900000) (h2 : got.length ≤ 1000000) : Fn G (n + 1) "_ellipsis_match" [.str want, .str got] (.bool (ellM want got)) := by
  refine Fn.intro (d := dEll) (ns := ["want", "got"]) hm (by rfl) ?_ (by decide) (by decide +kernel) (by decide +kernel) rfl rfl rfl ?_
  · intro pm code doc vs hv
    (apply len2 hv; exact fun _ _ => rfl)
  · have hmk : ∀ {σ : Loc}, Ev G n dEll.scope σ (.Name "ELLIPSIS_MARKER" ⟨0, 0, 0, 0⟩) (.str dots) := Ev.const rfl (by decide) T.ell fun v hv => reads_str rfl hv
    by_cases hin : subIn dots want = true
    · have : ellM want got = ellA got (splitE dots want) := by unfold ellM; rw [if_pos hin]
      rw [this]
      have h2' := split_two dots (by decide) want [] hin
      have hlen := split_len dots want 0 []
      have hbd : ∀ w ∈ splitE dots want, w.length ≤ 1000000 := fun w hw => by have := split_bound dots want 0 [] w hw; simp at this; omega
      refine Ex.cons (Ex1.if_ (c := false) (EvT.to (EvT.cmp (Ev.const rfl (by decide) T.ell fun v hv => reads_str rfl hv) (Ev.nm rfl) CmpV.notInS rfl) (by rw [hin]; rfl)) Ex.nil) ?_
      refine Ex.cons (Ex1.assignOwn (EvN.split (Ev.nm rfl) (Ev.const rfl (by decide) T.ell fun v hv => reads_str rfl hv) (by decide) (by decide +kernel) (by omega) (fun _ => rfl) (fun _ => rfl) rfl (fun _ _ => rfl)) rfl (fun _ => rfl)) ?_
      refine Ex.cons (Ex1.assert (EvT.borrow (x := "ws") (xs := sts (splitE dots want)) rfl (EvT.to (EvT.cmp (Ev.callB T.nb (by decide +kernel) (by decide) (by decide) (by decide) rfl (EvL.cons (Ev.nm rfl) EvL.nil (fun _ => rfl)) (CallV.lenL (by rw [sts_len]; unfold splitE; omega)) (fun _ _ => rfl) (fun _ _ => rfl)) Ev.cInt CmpV.geI rfl) (decide_eq_true (by rw [sts_len]; unfold splitE; omega))))) ?_
      refine Ex.cons (Ex1.assignSw (a := "startpos") (b := "endpos") (x := .int 0) (y := .int got.length) (Ev.mkT (EvL.cons Ev.cInt (EvL.cons (Ev.callB T.nb (by decide +kernel) (by decide) (by decide) (by decide) rfl (EvL.cons (Ev.nm rfl) EvL.nil (fun _ => rfl)) (CallV.lenS h2) (fun _ _ => rfl) (fun _ _ => rfl)) EvL.nil (fun _ => rfl)) (fun _ => rfl)) (by simp)) (.inl rfl) (.inl rfl) (fun _ => rfl) (fun F h => by cases F; subst h; rfl)) ?_
      have hw3 : ∃ w ws, splitE dots want = w :: ws ∧ ws ≠ [] := by
        unfold splitE
        match hq : splitGo dots 0 [] want with
        | [] => rw [hq] at h2'; simp at h2'
        | [w] => rw [hq] at h2'; simp at h2'
        | w :: x :: r => exact ⟨w, x :: r, rfl, by simp⟩
      obtain ⟨w, ws, he, hne⟩ := hw3
      rw [he] at hbd ⊢
      exact (ell_A got w ws hne (by rw [← he]; unfold splitE; omega) h2 hbd T.nb).weak (subL.out ⟨rfl, rfl, rfl, rfl, trivial⟩)
    · have : ellM want got = (want == got) := by unfold ellM; rw [if_neg hin]
      rw [this]
      exact Ex.stop (Ex1.if_ (c := true) (EvT.to (EvT.cmp (Ev.const rfl (by decide) T.ell fun v hv => reads_str rfl hv) (Ev.nm rfl) CmpV.notInS rfl) (by simpa using hin)) (Ex.stop (Ex1.ret (Ev.cmp (Ev.nm rfl) (Ev.nm rfl) CmpV.eqS rfl)) rfl)) rfl
end
end Mine
namespace Mine

def slcN (l : Tx) (lo hi : Nat) : Tx := (l.drop lo).take (hi - lo)
theorem slc_nat (l : Tx) (lo hi : Nat) (h1 : lo ≤ l.length) (h2 : hi ≤ l.length) : slc l (some (lo : Int)) (some (hi : Int)) = slcN l lo hi := by
  unfold slc slcN clip
  have e1 : (if (lo : Int) < 0 then (lo : Int) + (l.length : Int) else lo) = lo := if_neg (by omega)
  have e2 : (if (hi : Int) < 0 then (hi : Int) + (l.length : Int) else hi) = hi := if_neg (by omega)
  simp only [e1, e2, Int.toNat_natCast, Nat.min_eq_left h1, Nat.min_eq_left h2]
theorem slc_from (l : Tx) (lo : Nat) (h1 : lo ≤ l.length) : slc l (some (lo : Int)) none = l.drop lo := by
  unfold slc clip
  have e1 : (if (lo : Int) < 0 then (lo : Int) + (l.length : Int) else lo) = lo := if_neg (by omega)
  simp only [e1, Int.toNat_natCast, Nat.min_eq_left h1]
  rw [List.take_of_length_le]
  rw [List.length_drop]; omega
theorem slc_to (l : Tx) (hi : Nat) (h1 : hi ≤ l.length) : slc l none (some (hi : Int)) = l.take hi := by
  unfold slc clip
  have e1 : (if (hi : Int) < 0 then (hi : Int) + (l.length : Int) else hi) = hi := if_neg (by omega)
  simp only [e1, Int.toNat_natCast, Nat.min_eq_left h1]
  simp

def stripGo (addr : Tx) : List (Nat × Tx) → Nat → Option Nat → List Tx → Nat × List Tx
  | [], st, _, res => (st, res)
  | (p, ch) :: r, st, op, res => if ch == [34] then (match op with
      | none => stripGo addr r st (some p) res
      | some o => stripGo addr r (p + 1) none (if st != o then res ++ [slcN addr st o] else res))
    else stripGo addr r st op res
def stripF (addr : Tx) (p : Nat × List Tx) : Tx := joinT [] (if decide (p.1 < addr.length) then p.2 ++ [addr.drop p.1] else p.2)
def stripQ (addr : Tx) : Tx := if subIn [34] addr then stripF addr (stripGo addr (escGo 0 false addr) 0 none []) else addr
def optN : Option Nat → PV
  | none => .none
  | some i => .int i

section
variable {G : Gc} {n : Nat} {σ : Loc}
set_option maxHeartbeats 1000000

theorem escGo_pos : ∀ (c : Tx) (i : Nat) (b : Bool), (b = true → 0 < i) → ∀ p ∈ escGo i b c, p.1 < i + c.length ∨ (p.1 < i)
  | [], i, false, _, p, h => by simp [escGo] at h
  | [], i, true, hb, p, h => by
    simp [escGo] at h; subst h; have := hb rfl; simp; omega
  | x :: t, i, true, hb, p, h => by
    simp only [escGo] at h
    rcases List.mem_cons.mp h with rfl | h
    · simp
    · have := escGo_pos t (i + 1) false (fun h => by cases h) p h
      simp only [List.length_cons]; omega
  | x :: t, i, false, hb, p, h => by
    simp only [escGo] at h
    split at h
    · have := escGo_pos t (i + 1) true (fun _ => Nat.succ_pos _) p h
      simp only [List.length_cons]; omega
    · rcases List.mem_cons.mp h with rfl | h
      · simp
      · have := escGo_pos t (i + 1) false (fun h => by cases h) p h
        simp only [List.length_cons]; omega
theorem escGo_len : ∀ (c : Tx) (i : Nat) (b : Bool), (escGo i b c).length ≤ c.length + 1
  | [], i, b => by cases b <;> simp [escGo]
  | x :: t, i, true => by
    have := escGo_len t (i + 1) false
    simp only [escGo, List.length_cons]; omega
  | x :: t, i, false => by
    simp only [escGo]
    split
    · have := escGo_len t (i + 1) true
      simp only [List.length_cons]; omega
    · have := escGo_len t (i + 1) false
      simp only [List.length_cons]; omega

/-- a text's items, by the generator -/
theorem EvI.esc {sc : Scope} {e : Expr} {x : Str} {c : Tx} {p pos : Pos} (T : Top1 G) (h40 : 40 ≤ n) (hn : n ≤ 999) (hm : dIter ∈ recsOf G.p) (hx : x = ("_iter_escaped_chars" : Str))
    (hk : sc.names.lookup x = some .globalImplicit) (h1 : Ev G n sc σ e (.str c)) (he : ∀ env pos, backTo pos (starEach [e] env) = [(false, eval e env)]) (hse : ∀ env, starEach [e] env = (false, eval e env) :: starEach [] env) :
    EvI G n sc σ (.Call (.Name x p) [e] [] pos) (escPV (escGo 0 false c)) true := by
  subst hx
  refine EvI.gen (d := dIter) (ns := ["addr"]) (k1 := 2) hn (by decide) hk (EvL.cons h1 EvL.nil hse) hm (by rfl) (fun env pos => (he env pos).trans rfl) ?_ (by decide) ?_ (by decide +kernel) rfl rfl rfl rfl (spec_iter h40 hn T.nb c)
  · intro pm code doc vs hv
    (apply len1 hv; exact fun _ => rfl)
  · intro y hy
    rw [List.mem_singleton.mp hy]; rfl

theorem strip_for (addr : Tx) (hl : addr.length ≤ 900) (nb : NoB G) : ∀ (items : List (Nat × Tx)) (st : Nat) (op : Option Nat) (res : List Tx), res.length + items.length ≤ 950 → (∀ p ∈ items, p.1 < addr.length) → st ≤ addr.length → (∀ o, op = some o → o < addr.length) →
    ExF G n dStrip.scope [("start", .val (.int st)), ("open_pos", .val (optN op)), ("addr", .val (.str addr)), ("result", .own (sts res))] (forTgt (stAt dStrip.body 4)) (escPV items) true (forBody (stAt dStrip.body 4)) []
      (.next [("start", .val (.int (stripGo addr items st op res).1)), ("addr", .val (.str addr)), ("result", .own (sts (stripGo addr items st op res).2))]) := by
  intro items
  induction items with
  | nil =>
    intro st op res hlen hp hst hop
    exact ExF.nil (Ex.fin ⟨rfl, rfl, rfl, trivial⟩)
  | cons q items ih =>
    obtain ⟨p, ch⟩ := q
    intro st op res hlen hp hst hop
    have hpl := hp _ (.head _)
    simp only [List.length_cons] at hlen
    have tgt : ∀ {τ : Loc}, AsV G none dStrip.scope τ (forTgt (stAt dStrip.body 4)) (.tup [.int p, .str ch]) (("ch", .val (.str ch)) :: ("pos", .val (.int p)) :: τ) := AsV.tup (AsL.cons (AsV.name (.inl rfl)) (AsL.cons (AsV.name (.inl rfl)) AsL.nil)) rfl (fun _ => rfl)
    by_cases hq : (ch == [34]) = true
    · cases op with
      | none =>
        have e : stripGo addr ((p, ch) :: items) st none res = stripGo addr items st (some p) res := by simp only [stripGo, hq, if_true]
        rw [e]
        refine ExF.next tgt ?_ (ih st (some p) res (by omega) (fun x hx => hp x (.tail _ hx)) hst (fun o ho => by cases ho; exact hpl))
        refine Ex.cons (Ex1.if_ (c := true) (EvT.to (EvT.cmp (Ev.nm rfl) (Ev.cStr rfl) CmpV.eqS rfl) hq)
          (Ex.cons (Ex1.if_ (c := true) (EvT.cmp (Ev.nm (pv := .none) rfl) Ev.cNone (CmpV.is rfl) rfl) (Ex.cons (Ex1.assign (Ev.nm rfl) (.inl rfl) (fun _ => rfl)) Ex.nil)) Ex.nil)) (Ex.fin ?_)
        exact ⟨rfl, rfl, rfl, rfl, trivial⟩
      | some o =>
        have hol := hop o rfl
        have hslc := slc_nat addr st o hst (Nat.le_of_lt hol)
        have e : stripGo addr ((p, ch) :: items) st (some o) res = stripGo addr items (p + 1) none (if st != o then res ++ [slcN addr st o] else res) := by simp only [stripGo, hq, if_true]
        rw [e]
        by_cases hso : (st != o) = true
        · rw [if_pos hso]
          have hso' : ((st : Int) != (o : Int)) = true := by rw [bne_iff_ne]; rw [bne_iff_ne] at hso; omega
          refine ExF.next tgt ?_ (ih (p + 1) none (res ++ [slcN addr st o]) (by simp; omega) (fun x hx => hp x (.tail _ hx)) hpl (fun o ho => by cases ho))
          refine Ex.cons (Ex1.if_ (c := true) (EvT.to (EvT.cmp (Ev.nm rfl) (Ev.cStr rfl) CmpV.eqS rfl) hq)
            (Ex.cons (Ex1.if_ (c := false) (EvT.cmp (Ev.nm (pv := .int o) rfl) Ev.cNone (CmpV.is rfl) rfl)
              (Ex.cons (Ex1.if_ (c := true) (EvT.to (EvT.cmp (Ev.nm rfl) (Ev.nm rfl) CmpV.neI rfl) hso')
                  (Ex.cons (Ex1.append (xs := sts res) rfl (Ev.slcS (Ev.nm rfl) (EvP.at (Ev.nm rfl)) (EvP.at (Ev.nm rfl)) (by omega)) (by decide) (by rw [sts_len]; omega) (fun _ => rfl) (fun _ _ => rfl) (fun _ => rfl) rfl (fun _ => rfl)) Ex.nil))
                (Ex.cons (Ex1.assign (Ev.bin (Ev.nm rfl) Ev.cInt BinV.addI) (.inl rfl) (fun _ => rfl)) (Ex.cons (Ex1.assign Ev.cNone (.inl rfl) (fun _ => rfl)) Ex.nil)))) Ex.nil)) (Ex.fin ?_)
          rw [hslc]
          exact ⟨rfl, rfl, rfl, (by show some (Slot.own (sts res ++ [.str (slcN addr st o)])) = _; simp [sts]), trivial⟩
        · rw [if_neg hso]
          have hso' : ((st : Int) != (o : Int)) = false := by
            have : st = o := by simpa using hso
            subst this; simp
          refine ExF.next tgt ?_ (ih (p + 1) none res (by omega) (fun x hx => hp x (.tail _ hx)) hpl (fun o ho => by cases ho))
          refine Ex.cons (Ex1.if_ (c := true) (EvT.to (EvT.cmp (Ev.nm rfl) (Ev.cStr rfl) CmpV.eqS rfl) hq)
            (Ex.cons (Ex1.if_ (c := false) (EvT.cmp (Ev.nm (pv := .int o) rfl) Ev.cNone (CmpV.is rfl) rfl)
              (Ex.cons (Ex1.if_ (c := false) (EvT.to (EvT.cmp (Ev.nm rfl) (Ev.nm rfl) CmpV.neI rfl) hso') Ex.nil)
                (Ex.cons (Ex1.assign (Ev.bin (Ev.nm rfl) Ev.cInt BinV.addI) (.inl rfl) (fun _ => rfl)) (Ex.cons (Ex1.assign Ev.cNone (.inl rfl) (fun _ => rfl)) Ex.nil)))) Ex.nil)) (Ex.fin ?_)
          exact ⟨rfl, rfl, rfl, rfl, trivial⟩
    · have e : stripGo addr ((p, ch) :: items) st op res = stripGo addr items st op res := by simp only [stripGo, hq]; rfl
      rw [e]
      refine ExF.next tgt ?_ (ih st op res (by omega) (fun x hx => hp x (.tail _ hx)) hst hop)
      have hq' : (ch == [34]) = false := by simpa using hq
      exact Ex.cons (Ex1.if_ (c := false) (EvT.to (EvT.cmp (Ev.nm rfl) (Ev.cStr rfl) CmpV.eqS rfl) hq') Ex.nil) (Ex.fin ⟨rfl, rfl, rfl, rfl, trivial⟩)

theorem stripGo_inv (addr : Tx) : ∀ (items : List (Nat × Tx)) (st : Nat) (op : Option Nat) (res : List Tx), st ≤ addr.length → (∀ p ∈ items, p.1 < addr.length) → (∀ x ∈ res, x.length ≤ addr.length) →
    (stripGo addr items st op res).1 ≤ addr.length ∧ (stripGo addr items st op res).2.length ≤ res.length + items.length ∧ ∀ x ∈ (stripGo addr items st op res).2, x.length ≤ addr.length
  | [], st, op, res, h1, h2, h3 => ⟨h1, Nat.le_refl _, h3⟩
  | (p, ch) :: r, st, op, res, h1, h2, h3 => by
    have hp := h2 _ (.head _)
    have hr := fun x hx => h2 x (.tail _ hx)
    simp only [stripGo]
    split
    · cases op with
      | none =>
        have := stripGo_inv addr r st (some p) res h1 hr h3
        exact ⟨this.1, by have := this.2.1; simp only [List.length_cons]; omega, this.2.2⟩
      | some o =>
        have := stripGo_inv addr r (p + 1) none (if st != o then res ++ [slcN addr st o] else res) hp hr (by
          split
          · intro x hx
            rcases List.mem_append.mp hx with hx | hx
            · exact h3 x hx
            · rw [List.mem_singleton.mp hx]; unfold slcN; rw [List.length_take, List.length_drop]; omega
          · exact h3)
        refine ⟨this.1, Nat.le_trans this.2.1 ?_, this.2.2⟩
        split <;> simp <;> omega
    · have := stripGo_inv addr r st op res h1 hr h3
      exact ⟨this.1, by have := this.2.1; simp only [List.length_cons]; omega, this.2.2⟩
theorem joinW_le {l : List Tx} {B k : Nat} (h : ∀ x ∈ l, x.length ≤ B) : joinW (List.replicate k 0) l ≤ l.length * (B + k) := by
  unfold joinW
  induction l with
  | nil => simp
  | cons a r ih =>
    have := ih fun x hx => h x (.tail _ hx)
    have := h a (.head _)
    simp only [List.map_cons, List.sum_cons, List.length_cons, List.length_replicate] at *
    rw [Nat.succ_mul]; omega
theorem joinW_nil {l : List Tx} {B : Nat} (h : ∀ x ∈ l, x.length ≤ B) : joinW [] l ≤ l.length * B := joinW_le (k := 0) h
theorem strip_fin (addr : Tx) (hl : addr.length ≤ 900) : joinW [] (if decide ((stripGo addr (escGo 0 false addr) 0 none []).1 < addr.length) then (stripGo addr (escGo 0 false addr) 0 none []).2 ++ [addr.drop (stripGo addr (escGo 0 false addr) 0 none []).1] else (stripGo addr (escGo 0 false addr) 0 none []).2) ≤ 1000000 ∧
    (∀ p ∈ escGo 0 false addr, p.1 < addr.length) ∧ (stripGo addr (escGo 0 false addr) 0 none []).1 ≤ addr.length ∧ (stripGo addr (escGo 0 false addr) 0 none []).2.length ≤ addr.length + 1 := by
  have hp : ∀ p ∈ escGo 0 false addr, p.1 < addr.length := fun p hp => by have := escGo_pos addr 0 false (fun h => by cases h) p hp; omega
  have hi := stripGo_inv addr (escGo 0 false addr) 0 none [] (Nat.zero_le _) hp (fun x hx => by cases hx)
  have hle := escGo_len addr 0 false
  have h2 : (stripGo addr (escGo 0 false addr) 0 none []).2.length ≤ addr.length + 1 := by have := hi.2.1; simp at this; omega
  refine ⟨?_, hp, hi.1, h2⟩
  have key : ∀ l : List Tx, (∀ x ∈ l, x.length ≤ addr.length) → l.length ≤ addr.length + 2 → joinW [] l ≤ 1000000 := fun l h1 h2 => by
    have := joinW_nil h1
    have h3 : l.length * addr.length ≤ 902 * 900 := Nat.mul_le_mul (by omega) hl
    omega
  split
  · refine key _ (fun x hx => ?_) (by simp; omega)
    rcases List.mem_append.mp hx with hx | hx
    · exact hi.2.2 x hx
    · rw [List.mem_singleton.mp hx, List.length_drop]; omega
  · exact key _ hi.2.2 (by omega)

theorem fn_strip (T : Top1 G) (h40 : 40 ≤ n) (hn : n ≤ 999) (hm : dStrip ∈ recsOf G.p) (hmi : dIter ∈ recsOf G.p) (addr : Tx) (hl : addr.length ≤ 900) : Fn G (n + 1) "_strip_quoted_realnames" [.str addr] (.str (stripQ addr)) := by
  refine Fn.intro (d := dStrip) (ns := ["addr"]) hm (by rfl) ?_ (by decide) (by decide +kernel) (by decide +kernel) rfl rfl rfl ?_
  · intro pm code doc vs hv
    (apply len1 hv; exact fun _ => rfl)
  · by_cases hin : subIn [34] addr = true
    · have : stripQ addr = stripF addr (stripGo addr (escGo 0 false addr) 0 none []) := by unfold stripQ; rw [if_pos hin]
      rw [this]
      obtain ⟨hw, hp, hst, hlen⟩ := strip_fin addr hl
      refine Ex.cons (Ex1.if_ (c := false) (EvT.to (EvT.cmp (Ev.cStr (c := [34]) rfl) (Ev.nm rfl) CmpV.notInS rfl) (by rw [hin]; rfl)) Ex.nil) ?_
      refine Ex.cons (Ex1.assign Ev.cInt (.inl rfl) (fun _ => rfl)) (Ex.cons (Ex1.assign Ev.cNone (.inl rfl) (fun _ => rfl)) (Ex.cons (Ex1.assignOwn (EvN.disp (xs := []) EvL.nil (by simp)) rfl (fun _ => rfl)) ?_))
      refine Ex.cons (Ex1.for_ (EvI.esc (c := addr) T h40 hn hmi rfl rfl (Ev.nm rfl) (fun _ _ => rfl) (fun _ => rfl)) (ExF.weak (strip_for addr hl T.nb (escGo 0 false addr) 0 none [] (by have := escGo_len addr 0 false; simp; omega) hp (Nat.zero_le _) (fun o h => by cases h)) (subL.out ⟨rfl, rfl, rfl, rfl, trivial⟩)) (fun _ _ => rfl)) ?_
      unfold stripF at *
      generalize stripGo addr (escGo 0 false addr) 0 none [] = r at *
      by_cases hlt : r.1 < addr.length
      · rw [decide_eq_true hlt, if_pos rfl] at *
        refine Ex.cons (Ex1.if_ (c := true) (EvT.to (EvT.cmp (Ev.nm rfl) (Ev.callB T.nb (by decide +kernel) (by decide) (by decide) (by decide) rfl (EvL.cons (Ev.nm rfl) EvL.nil (fun _ => rfl)) (CallV.lenS (by omega)) (fun _ _ => rfl) (fun _ _ => rfl)) CmpV.ltI rfl) (decide_eq_true (by omega)))
          (Ex.cons (Ex1.append (xs := sts r.2) rfl (Ev.slcS (Ev.nm rfl) (EvP.at (Ev.nm rfl)) EvP.no (by omega)) (by decide) (by rw [sts_len]; omega) (fun _ => rfl) (fun _ _ => rfl) (fun _ => rfl) rfl (fun _ => rfl)) Ex.nil)) ?_
        rw [slc_from addr r.1 hst, show sts r.2 ++ [PV.str (addr.drop r.1)] = sts (r.2 ++ [addr.drop r.1]) by simp [sts]]
        exact Ex.stop (Ex1.ret (Ev.borrow (x := "result") (xs := sts (r.2 ++ [addr.drop r.1])) rfl (Ev.methS PySem.F.slot_str_join PySem.F.type_str_join (Ev.cStr (c := []) rfl) (EvL.cons (Ev.nm rfl) EvL.nil (fun _ => rfl)) (CallV.join hw) (fun _ => rfl) (fun _ => rfl) rfl (fun _ _ => rfl) (fun _ _ => rfl)) rfl)) rfl
      · rw [decide_eq_false hlt, if_neg Bool.false_ne_true] at *
        refine Ex.cons (Ex1.if_ (c := false) (EvT.to (EvT.cmp (Ev.nm rfl) (Ev.callB T.nb (by decide +kernel) (by decide) (by decide) (by decide) rfl (EvL.cons (Ev.nm rfl) EvL.nil (fun _ => rfl)) (CallV.lenS (by omega)) (fun _ _ => rfl) (fun _ _ => rfl)) CmpV.ltI rfl) (decide_eq_false (by omega))) Ex.nil) ?_
        exact Ex.stop (Ex1.ret (Ev.borrow (x := "result") (xs := sts r.2) rfl (Ev.methS PySem.F.slot_str_join PySem.F.type_str_join (Ev.cStr (c := []) rfl) (EvL.cons (Ev.nm rfl) EvL.nil (fun _ => rfl)) (CallV.join hw) (fun _ => rfl) (fun _ => rfl) rfl (fun _ _ => rfl) (fun _ _ => rfl)) rfl)) rfl
    · have : stripQ addr = addr := by unfold stripQ; rw [if_neg hin]
      rw [this]
      exact Ex.stop (Ex1.if_ (c := true) (EvT.to (EvT.cmp (Ev.cStr (c := [34]) rfl) (Ev.nm rfl) CmpV.notInS rfl) (by simpa using hin)) (Ex.stop (Ex1.ret (Ev.nm rfl)) rfl)) rfl

def checkRun : List (Nat × Tx) → Int → Option Int
  | [], o => some o
  | (_, ch) :: r, o => if ch == [40] then checkRun r (o + 1) else if ch == [41] then (if decide (o - 1 < 0) then none else checkRun r (o - 1)) else checkRun r o
def checkP (addr : Tx) : Bool := match checkRun (escGo 0 false (stripQ addr)) 0 with
  | none => false
  | some o => o == 0
theorem check_for : ∀ (items : List (Nat × Tx)) (o : Int),
    ExF G n dCheck.scope [("opens", .val (.int o))] (forTgt (stAt dCheck.body 2)) (escPV items) true (forBody (stAt dCheck.body 2)) [] (match checkRun items o with | some o' => .next [("opens", .val (.int o'))] | none => .ret (.bool false)) := by
  intro items
  induction items with
  | nil => intro o; exact ExF.nil (Ex.fin ⟨rfl, trivial⟩)
  | cons q items ih =>
    obtain ⟨p, ch⟩ := q
    intro o
    have tgt : ∀ {τ : Loc}, AsV G none dCheck.scope τ (forTgt (stAt dCheck.body 2)) (.tup [.int p, .str ch]) (("ch", .val (.str ch)) :: ("pos", .val (.int p)) :: τ) := AsV.tup (AsL.cons (AsV.name (.inl rfl)) (AsL.cons (AsV.name (.inl rfl)) AsL.nil)) rfl (fun _ => rfl)
    by_cases h1 : (ch == [40]) = true
    · have e : checkRun ((p, ch) :: items) o = checkRun items (o + 1) := by simp only [checkRun, h1, if_true]
      rw [e]
      exact ExF.next tgt (Ex.cons (Ex1.if_ (c := true) (EvT.to (EvT.cmp (Ev.nm rfl) (Ev.cStr rfl) CmpV.eqS rfl) h1) (Ex.cons (Ex1.aug rfl Ev.cInt InV.addI (.inl rfl)) Ex.nil)) (Ex.fin (τ' := [("opens", .val (.int (o + 1)))]) ⟨rfl, trivial⟩)) (ih (o + 1))
    · have h1' : (ch == [40]) = false := by simpa using h1
      by_cases h2 : (ch == [41]) = true
      · by_cases h3 : o - 1 < 0
        · have e : checkRun ((p, ch) :: items) o = none := by simp only [checkRun, h1', h2, decide_eq_true h3, if_true]; rfl
          rw [e]
          refine ExF.ret tgt (Ex.stop (Ex1.if_ (c := false) (EvT.to (EvT.cmp (Ev.nm rfl) (Ev.cStr rfl) CmpV.eqS rfl) h1') (Ex.stop (Ex1.if_ (c := true) (EvT.to (EvT.cmp (Ev.nm rfl) (Ev.cStr rfl) CmpV.eqS rfl) h2) (Ex.cons (Ex1.aug rfl Ev.cInt InV.subI (.inl rfl))
            (Ex.stop (Ex1.if_ (c := true) (EvT.to (EvT.cmp (Ev.nm rfl) Ev.cInt CmpV.ltI rfl) (decide_eq_true h3)) (Ex.stop (Ex1.ret Ev.cBool) rfl)) rfl))) rfl)) rfl)
        · have e : checkRun ((p, ch) :: items) o = checkRun items (o - 1) := by simp only [checkRun, h1', h2, decide_eq_false h3, if_true]; rfl
          rw [e]
          exact ExF.next tgt (Ex.cons (Ex1.if_ (c := false) (EvT.to (EvT.cmp (Ev.nm rfl) (Ev.cStr rfl) CmpV.eqS rfl) h1') (Ex.cons (Ex1.if_ (c := true) (EvT.to (EvT.cmp (Ev.nm rfl) (Ev.cStr rfl) CmpV.eqS rfl) h2) (Ex.cons (Ex1.aug rfl Ev.cInt InV.subI (.inl rfl))
            (Ex.cons (Ex1.if_ (c := false) (EvT.to (EvT.cmp (Ev.nm rfl) Ev.cInt CmpV.ltI rfl) (decide_eq_false h3)) Ex.nil) Ex.nil))) Ex.nil)) (Ex.fin (τ' := [("opens", .val (.int (o - 1)))]) ⟨rfl, trivial⟩)) (ih (o - 1))
      · have h2' : (ch == [41]) = false := by simpa using h2
        have e : checkRun ((p, ch) :: items) o = checkRun items o := by simp only [checkRun, h1', h2']; rfl
        rw [e]
        exact ExF.next tgt (Ex.cons (Ex1.if_ (c := false) (EvT.to (EvT.cmp (Ev.nm rfl) (Ev.cStr rfl) CmpV.eqS rfl) h1') (Ex.cons (Ex1.if_ (c := false) (EvT.to (EvT.cmp (Ev.nm rfl) (Ev.cStr rfl) CmpV.eqS rfl) h2') Ex.nil) Ex.nil)) (Ex.fin (τ' := [("opens", .val (.int o))]) ⟨rfl, trivial⟩)) (ih o)
theorem fn_check (T : Top1 G) (h40 : 40 ≤ n) (hn : n ≤ 900) (hm : dCheck ∈ recsOf G.p) (hms : dStrip ∈ recsOf G.p) (hmi : dIter ∈ recsOf G.p) (addr : Tx) (hl : addr.length ≤ 900) : Fn G (n + 2) "_check_parenthesis" [.str addr] (.bool (checkP addr)) := by
  refine Fn.intro (d := dCheck) (ns := ["addr"]) hm (by rfl) ?_ (by decide) (by decide +kernel) (by decide +kernel) rfl rfl rfl ?_
  · intro pm code doc vs hv
    (apply len1 hv; exact fun _ => rfl)
  · refine Ex.cons (Ex1.assign (Ev.callF (by decide) rfl (EvL.cons (Ev.nm rfl) EvL.nil (fun _ => rfl)) hms (by rfl) (fn_strip T h40 (by omega) hms hmi addr hl) (fun _ _ => rfl)) (.inl rfl) (fun _ => rfl)) ?_
    refine Ex.cons (Ex1.assign Ev.cInt (.inl rfl) (fun _ => rfl)) ?_
    have key := check_for (G := G) (n := n + 1) (escGo 0 false (stripQ addr)) 0
    unfold checkP
    cases hc : checkRun (escGo 0 false (stripQ addr)) 0 with
    | none =>
      rw [hc] at key
      exact Ex.stop (Ex1.for_ (EvI.esc (c := stripQ addr) T (by omega) (by omega) hmi rfl rfl (Ev.nm rfl) (fun _ _ => rfl) (fun _ => rfl)) (ExF.weak key (subL.out ⟨rfl, trivial⟩)) (fun _ _ => rfl)) rfl
    | some o =>
      rw [hc] at key
      exact Ex.cons (Ex1.for_ (EvI.esc (c := stripQ addr) T (by omega) (by omega) hmi rfl rfl (Ev.nm rfl) (fun _ _ => rfl) (fun _ => rfl)) (ExF.weak key (subL.out ⟨rfl, trivial⟩)) (fun _ _ => rfl)) (Ex.stop (Ex1.ret (Ev.cmp (Ev.nm rfl) Ev.cInt CmpV.eqI rfl)) rfl)
theorem fn_coll (hm : dColl ∈ recsOf G.p) (a b : Tx) : Fn G (n + 1) "_strcoll" [.str a, .str b] (.int (bi (decide (b < a)) - bi (decide (a < b)))) := by
  refine Fn.intro (d := dColl) (ns := ["a", "b"]) hm (by rfl) ?_ (by decide) (by decide +kernel) (by decide +kernel) rfl rfl rfl ?_
  · intro pm code doc vs hv
    (apply len2 hv; exact fun _ _ => rfl)
  · exact Ex.stop (Ex1.ret (Ev.bin (Ev.cmp (Ev.nm rfl) (Ev.nm rfl) CmpV.gtS rfl) (Ev.cmp (Ev.nm rfl) (Ev.nm rfl) CmpV.ltS rfl) BinV.subB)) rfl
end
end Mine
namespace Mine

section
variable {G : Gc} {n : Nat} {σ : Loc}
set_option maxHeartbeats 1000000
def chs (l : Tx) : List PV := l.map fun z => .str [z]
def collI (a b : Tx) : Int := bi (decide (b < a)) - bi (decide (a < b))
theorem CmpV.eqNil {xs : List PV} (h : pok 3 (.list xs) = true) : CmpV G n .Eq (.list xs) (.list []) (.bool xs.isEmpty) := by
  have := CmpV.eq (G := G) (n := n) (a := .list xs) (b := .list []) (k := 3) (m := 3) h rfl (by decide) (by decide)
  have e : peq (.list xs) (.list []) = xs.isEmpty := by cases xs <;> simp [peq, peqs]
  rw [e] at this; exact this
theorem CmpV.neNil {xs : List PV} (h : pok 3 (.list xs) = true) : CmpV G n .NotEq (.list xs) (.list []) (.bool (!xs.isEmpty)) := by
  have := CmpV.ne (G := G) (n := n) (a := .list xs) (b := .list []) (k := 3) (m := 3) h rfl (by decide) (by decide)
  have e : peq (.list xs) (.list []) = xs.isEmpty := by cases xs <;> simp [peq, peqs]
  rw [e] at this; exact this
def okT (c : Tx) : Prop := ∀ x ∈ c, x < 1114112
structure Defs (G : Gc) : Prop where
  T : Top1 G
  ell : dEll ∈ recsOf G.p
  iter : dIter ∈ recsOf G.p
  strip : dStrip ∈ recsOf G.p
  check : dCheck ∈ recsOf G.p
  coll : dColl ∈ recsOf G.p
  grp : dGrp ∈ recsOf G.p
def nats (l : List Nat) : List PV := l.map fun (k : Nat) => PV.int (k : Int)
theorem EvI.upto {G : Gc} {n : Nat} {sc : Scope} {σ : Loc} {e : Expr} {lo : Nat} {hi : Int} (h1 : Ev G n sc σ e (.rng (lo : Int) hi 1)) (hl : lo ≤ 1000000) (hh : hi ≤ 1000000) (hh' : -1000000 ≤ hi) : EvI G n sc σ e (nats (List.range' lo (hi - lo).toNat)) true := by
  have := EvI.rng h1 (small_one (by omega) (by omega) (by omega) (by omega)) (m := (hi - lo).toNat) (rangeSize_nat _ _)
  have e2 : (List.range (hi - lo).toNat).map (fun (k : Nat) => PV.int ((lo : Int) + (k : Int) * 1)) = nats (List.range' lo (hi - lo).toNat) := by
    rw [nats, List.range'_eq_map_range, List.map_map]
    apply List.map_congr_left
    intro k _
    simp
  rw [e2] at this
  exact this
def notPar (x : Nat) : Bool := !subIn [x] [40, 41]
theorem get_dec {text : Tx} {k c : Nat} (h : k < text.length) : ([text[k]] == ([c] : Tx)) = (text[k]? == some c) := by
  rw [List.getElem?_eq_getElem h, Bool.eq_iff_iff]; simp
theorem mem_upto {k lo m : Nat} (h : k ∈ List.range' lo m) : lo ≤ k ∧ k < lo + m := List.mem_range'_1.mp h
theorem Ex1.brkTo {sc : Scope} {τ' : Loc} {pos : Pos} (h : subL τ' σ) : Ex1 G n sc σ (.Break pos) (.brk τ') := ⟨fun F A Z W s Q E hsc ho ok st k => Ex1.brk.run F A Z W s Q E hsc ho ok st fun fl s' Z' W' g o => k fl s' Z' W' g ⟨o.1, o.2.weak h.out⟩⟩
theorem getI_neg {α : Type} {l : List α} {k : Nat} (h1 : 1 ≤ k) (h2 : k ≤ l.length) : getI l (-(k : Int)) = l[l.length - k]? := by
  unfold getI seqIndex?
  have h0 : (-(k : Int)) < 0 := by omega
  have e : (-(k : Int)) + (l.length : Int) = ((l.length - k : Nat) : Int) := by omega
  simp only [h0, if_true, e]
  have : (decide (0 ≤ ((l.length - k : Nat) : Int)) && decide (((l.length - k : Nat) : Int) < (l.length : Int))) = true := by
    simp; omega
  rw [if_pos this]
  simp
theorem EvI.uptoN {sc : Scope} {e : Expr} {lo m : Nat} {hi : Int} (h1 : Ev G n sc σ e (.rng (lo : Int) hi 1)) (hm : (hi - lo).toNat = m) (hl : lo ≤ 1000000) (hh : hi ≤ 1000000) (hh' : -1000000 ≤ hi) : EvI G n sc σ e (nats (List.range' lo m)) true := by
  have := EvI.upto h1 hl hh hh'
  rw [hm] at this; exact this
theorem nats_len (l : List Nat) : (nats l).length = l.length := by simp [nats]
theorem slcG_to {α : Type} (l : List α) (hi : Nat) : slc l none (some (hi : Int)) = l.take hi := by
  unfold slc clip
  have e1 : (if (hi : Int) < 0 then (hi : Int) + (l.length : Int) else hi) = hi := if_neg (by omega)
  simp only [e1, Int.toNat_natCast]
  rw [List.drop_zero, Nat.sub_zero]
  rcases Nat.le_total hi l.length with h | h
  · rw [Nat.min_eq_left h]
  · rw [Nat.min_eq_right h, List.take_of_length_le (Nat.le_refl _), List.take_of_length_le h]
theorem its_len (l : List Int) : (its l).length = l.length := by simp [its]
theorem its_app (a b : List Int) : its (a ++ b) = its a ++ its b := by simp [its]
theorem its_take (l : List Int) (k : Nat) : (its l).take k = its (l.take k) := by rw [its, its, List.map_take]
theorem sts_snoc (l : List Tx) (a : Tx) : sts (l ++ [a]) = sts l ++ [.str a] := by simp [sts]
theorem EvI.grp {sc : Scope} {e : Expr} {x : Str} {gs xs : List Int} {ends : Bool} {p pos : Pos} (T : Top1 G) (h40 : 40 ≤ n) (hn : n ≤ 999) (hm : dGrp ∈ recsOf G.p) (hx : x = ("_grouping_intervals" : Str)) (hl : gs.length ≤ 1000000) (hg : Grp none gs xs ends)
    (hk : sc.names.lookup x = some .globalImplicit) (h1 : Ev G n sc σ e (.list (its gs))) (he : ∀ env pos, backTo pos (starEach [e] env) = [(false, eval e env)]) (hse : ∀ env, starEach [e] env = (false, eval e env) :: starEach [] env) :
    EvI G n sc σ (.Call (.Name x p) [e] [] pos) (its xs) ends := by
  subst hx
  refine EvI.gen (d := dGrp) (ns := ["grouping"]) (k1 := 1) hn (by decide) hk (EvL.cons h1 EvL.nil hse) hm (by rfl) (fun env pos => (he env pos).trans rfl) ?_ (by decide) ?_ (by decide +kernel) rfl rfl rfl rfl (spec_grp h40 hn T.cm gs xs ends hl hg)
  · intro pm code doc vs hv
    (apply len1 hv; exact fun _ => rfl)
  · intro y hy
    rw [List.mem_singleton.mp hy]; rfl
def oneL (c : Tx) : List Tx := c.map fun x => [x]
theorem joinT_len (sep : Tx) (l : List Tx) : (joinT sep l).length ≤ joinW sep l := by
  have key : ∀ (r : List Tx) (a : Tx), (r.foldl (fun acc p => acc ++ sep ++ p) a).length = a.length + (r.map fun t => t.length + sep.length).sum := by
    intro r
    induction r with
    | nil => intro a; simp
    | cons b r ih => intro a; rw [List.foldl_cons, ih, List.map_cons, List.sum_cons]; simp; omega
  cases l with
  | nil => simp [joinT]
  | cons a r =>
    show (r.foldl (fun acc p => acc ++ sep ++ p) a).length ≤ _
    rw [key]
    unfold joinW
    rw [List.map_cons, List.sum_cons]
    omega
theorem bool_is (a b : Bool) : pis (.bool a) (.bool b) = (a == b) := by cases a <;> cases b <;> rfl
theorem slcG_from {α : Type} (l : List α) (lo : Nat) : slc l (some (lo : Int)) none = l.drop lo := by
  unfold slc clip
  have e1 : (if (lo : Int) < 0 then (lo : Int) + (l.length : Int) else lo) = lo := if_neg (by omega)
  simp only [e1, Int.toNat_natCast]
  rcases Nat.le_total lo l.length with h | h
  · rw [Nat.min_eq_left h, List.take_of_length_le (by rw [List.length_drop]; omega)]
  · rw [Nat.min_eq_right h, List.drop_of_length_le (Nat.le_refl _), List.drop_of_length_le h]; simp
theorem pok_its (l : List Int) (k : Nat) : pok (k + 1) (.list (its l)) = true := by
  simp only [pok, List.all_eq_true]
  intro x hx
  obtain ⟨c, hc, rfl⟩ := List.mem_map.mp hx
  cases k <;> rfl
theorem CmpV.neInts {xs : List Int} : CmpV G n .NotEq (.list (its xs)) (.list (its xs)) (.bool false) := by
  have := CmpV.ne (G := G) (n := n) (a := .list (its xs)) (b := .list (its xs)) (k := 3) (m := 3) (pok_its _ 2) (pok_its _ 2) (by decide) (by decide)
  have e : ∀ l : List Int, peqs (its l) (its l) = true := by
    intro l
    induction l with
    | nil => rfl
    | cons a r ih => simp only [its, List.map_cons, peqs] at *; rw [ih]; simp [peq]
  rw [show (!peq (.list (its xs)) (.list (its xs))) = false by simp only [peq, e]; rfl] at this
  exact this
def nbOk (p : Program) (loose : List Str) : Bool := usedB.all fun x => decide (x ∉ startupNames ∧ x ∉ loose ∧ x ∉ (recsOf p).map (fun x => x.name) ∧ x ∉ (litsOf p).map (fun x => x.1) ∧ x ∉ (clssOf p loose).map (fun x => x.name))
theorem nob_of {p : Program} {loose : List Str} {mean : ExcName → Option Value} {mg mb : Str → Option Value} {h : Heap} (T : Top p loose mean mg mb h) (hc : nbOk p loose = true) : ∀ x ∈ usedB, mg x = none := fun x hx => by
  obtain ⟨h1, h2, h3, h4, h5⟩ := of_decide_eq_true (List.all_eq_true.mp hc x hx)
  exact T.free x h1 h2 h3 h4 h5
end
end Mine
namespace Mine

structure Ren (φ : Nat → Nat) : Prop where
  lt : ∀ a b, a < b → φ a < φ b
  fix : ∀ n, n < 97 → φ n = n
section
variable {φ : Nat → Nat} (R : Ren φ)
include R
theorem Ren.iff (a b : Nat) : φ a < φ b ↔ a < b := by
  constructor
  · intro h
    rcases Nat.lt_trichotomy a b with q | q | q
    · exact q
    · subst q; omega
    · have := R.lt _ _ q; omega
  · exact R.lt a b
theorem Ren.eq (a b : Nat) : φ a = φ b ↔ a = b := by
  constructor
  · intro h
    rcases Nat.lt_trichotomy a b with q | q | q
    · have := R.lt _ _ q; omega
    · exact q
    · have := R.lt _ _ q; omega
  · rintro rfl; rfl
theorem Ren.beq (a b : Nat) : (φ a == φ b) = (a == b) := by rw [Bool.eq_iff_iff, beq_iff_eq, beq_iff_eq, R.eq]
theorem Ren.dec (a b : Nat) : decide (φ a < φ b) = decide (a < b) := by rw [Bool.eq_iff_iff, decide_eq_true_eq, decide_eq_true_eq, R.iff]
theorem Ren.consts (l : Tx) (h : ∀ x ∈ l, x < 97) : l.map φ = l := by
  rw [List.map_congr_left (fun x hx => R.fix x (h x hx)), List.map_id']
theorem prefixB_map : ∀ (a b : Tx), prefixB (a.map φ) (b.map φ) = prefixB a b
  | [], b => by simp [prefixB]
  | x :: a, [] => by simp [prefixB]
  | x :: a, y :: b => by simp only [List.map_cons, prefixB, R.beq, prefixB_map a b]
theorem subIn_map (a : Tx) : ∀ b : Tx, subIn (a.map φ) (b.map φ) = subIn a b
  | [] => by simpa [subIn] using prefixB_map R a []
  | x :: b => by
    have h1 := prefixB_map R a (x :: b)
    have h2 := subIn_map a b
    simp only [List.map_cons, subIn] at *
    rw [h1, h2]
theorem suffixB_map (a b : Tx) : suffixB (a.map φ) (b.map φ) = suffixB a b := by
  unfold suffixB
  rw [List.length_map, List.length_map, ← List.map_drop, prefixB_map R]
theorem splitGo_map (sp : Tx) : ∀ (x : Tx) (k : Nat) (cur : Tx), splitGo (sp.map φ) k (cur.map φ) (x.map φ) = (splitGo sp k cur x).map (List.map φ)
  | [], k, cur => by cases k <;> simp [splitGo]
  | y :: t, 0, cur => by
    have h1 := prefixB_map R sp (y :: t)
    have h2 := splitGo_map sp t (sp.length - 1) []
    have h3 := splitGo_map sp t 0 (cur ++ [y])
    simp only [List.map_cons, splitGo] at *
    rw [h1]
    split
    · simp only [List.map_cons, List.length_map, List.map_nil] at *; rw [h2]
    · simp only [List.map_append, List.map_cons, List.map_nil] at h3; rw [h3]
  | y :: t, k + 1, cur => by
    have h2 := splitGo_map sp t k cur
    simp only [List.map_cons, splitGo]
    exact h2
theorem findGo_map (sub : Tx) (hi : Nat) : ∀ (x : Tx) (i : Nat), findGo (sub.map φ) hi i (x.map φ) = findGo sub hi i x
  | [], i => by
    have h1 := prefixB_map R sub []
    simp only [List.map_nil, findGo, List.length_map] at *
    rw [h1]
  | y :: t, i => by
    have h1 := prefixB_map R sub (y :: t)
    have h2 := findGo_map sub hi t (i + 1)
    simp only [List.map_cons, findGo, List.length_map] at *
    rw [h1, h2]
theorem ellMid_map (got : Tx) (hi : Nat) : ∀ (ws : List Tx) (lo : Nat), ellMid (got.map φ) hi (ws.map (List.map φ)) lo = ellMid got hi ws lo
  | [], lo => rfl
  | w :: ws, lo => by
    have h1 := findGo_map R w hi (got.drop lo) lo
    rw [List.map_cons]
    cases h : findGo w hi lo (got.drop lo) with
    | none =>
      rw [ellMid_none h]
      rw [h, List.map_drop] at h1
      rw [ellMid_none h1]
    | some k =>
      rw [ellMid_some h]
      rw [h, List.map_drop] at h1
      rw [ellMid_some h1, List.length_map, ellMid_map got hi ws]
theorem ellC_map (got : Tx) (lo hi : Nat) (ws : List Tx) : ellC (got.map φ) lo hi (ws.map (List.map φ)) = ellC got lo hi ws := by
  unfold ellC
  rw [ellMid_map R]
theorem lastD_map (ws : List Tx) : (ws.map (List.map φ)).getLastD [] = (ws.getLastD []).map φ := by
  cases ws with
  | nil => rfl
  | cons a r =>
    show ((a :: r).map (List.map φ)).getLast _ = ((a :: r).getLast _).map φ
    rw [List.getLast_map]
theorem isEmpty_map (c : Tx) : (c.map φ).isEmpty = c.isEmpty := by cases c <;> rfl
theorem ellB_map (got : Tx) (lo : Nat) (ws : List Tx) : ellB (got.map φ) lo (ws.map (List.map φ)) = ellB got lo ws := by
  unfold ellB
  rw [lastD_map R, isEmpty_map R, suffixB_map R, List.length_map, List.length_map, ← List.map_dropLast, ellC_map R, ellC_map R]
theorem dots_map : dots.map φ = dots := R.consts dots (by decide)
theorem ellA_map (got : Tx) (ws : List Tx) : ellA (got.map φ) (ws.map (List.map φ)) = ellA got ws := by
  cases ws with
  | nil => 
    have := ellB_map R got 0 []
    simpa [ellA] using this
  | cons w r =>
    rw [List.map_cons, ellA_cons, ellA_cons, isEmpty_map R, prefixB_map R, List.length_map, ellB_map R]
    have := ellB_map R got 0 (w :: r)
    rw [List.map_cons] at this
    rw [this]
theorem ellM_map (want got : Tx) : ellM (want.map φ) (got.map φ) = ellM want got := by
  unfold ellM splitE
  have h1 := subIn_map R dots want
  have h2 := splitGo_map R dots want 0 []
  rw [dots_map R] at h1 h2
  rw [h1, show ([] : Tx) = ([] : Tx).map φ from rfl, h2, ellA_map R]
  have : (want.map φ == got.map φ) = (want == got) := by
    rw [Bool.eq_iff_iff, beq_iff_eq, beq_iff_eq]
    exact List.map_inj_right (fun a b h => (R.eq a b).mp h)
  rw [this]
  rfl
theorem Ren.const (x n : Nat) (h : n < 97) : (φ x == n) = (x == n) := by
  have := R.beq x n
  rw [R.fix n h] at this
  exact this
theorem escGo_map : ∀ (c : Tx) (i : Nat) (b : Bool), escGo i b (c.map φ) = (escGo i b c).map fun p => (p.1, p.2.map φ)
  | [], i, b => by cases b <;> simp [escGo, R.fix 92 (by decide)]
  | x :: t, i, true => by
    have := escGo_map t (i + 1) false
    simp only [List.map_cons, escGo, List.map_nil, R.fix 92 (by decide)] at *
    rw [this]
  | x :: t, i, false => by
    have h1 := escGo_map t (i + 1) false
    have h2 := escGo_map t (i + 1) true
    simp only [List.map_cons, escGo, R.const x 92 (by decide)] at *
    split
    · exact h2
    · rw [h1]; simp
theorem one_eq_map (ch : Tx) (n : Nat) (h : n < 97) : (ch.map φ == [n]) = (ch == [n]) := by
  rw [Bool.eq_iff_iff, beq_iff_eq, beq_iff_eq]
  have hn : [n] = [n].map φ := (R.consts [n] (by intro x hx; rw [List.mem_singleton.mp hx]; exact h)).symm
  constructor
  · intro e
    rw [hn] at e
    exact (List.map_inj_right (fun a b h => (R.eq a b).mp h)).mp e
  · intro e
    rw [e, ← hn]
theorem checkRun_map : ∀ (l : List (Nat × Tx)) (o : Int), checkRun (l.map fun p => (p.1, p.2.map φ)) o = checkRun l o
  | [], o => rfl
  | (p, ch) :: r, o => by
    simp only [List.map_cons, checkRun, one_eq_map R ch 40 (by decide), one_eq_map R ch 41 (by decide), checkRun_map r]
theorem slcN_map (l : Tx) (a b : Nat) : slcN (l.map φ) a b = (slcN l a b).map φ := by
  unfold slcN; rw [List.map_take, List.map_drop]
theorem stripGo_map (addr : Tx) : ∀ (l : List (Nat × Tx)) (st : Nat) (op : Option Nat) (res : List Tx), stripGo (addr.map φ) (l.map fun p => (p.1, p.2.map φ)) st op (res.map (List.map φ)) = ((stripGo addr l st op res).1, (stripGo addr l st op res).2.map (List.map φ))
  | [], st, op, res => rfl
  | (p, ch) :: r, st, op, res => by
    simp only [List.map_cons, stripGo, one_eq_map R ch 34 (by decide)]
    split
    · cases op with
      | none => exact stripGo_map addr r st (some p) res
      | some o =>
        simp only [slcN_map R]
        split
        · have := stripGo_map addr r (p + 1) none (res ++ [slcN addr st o])
          rw [List.map_append] at this
          exact this
        · exact stripGo_map addr r (p + 1) none res
    · exact stripGo_map addr r st op res
theorem joinT_map (l : List Tx) : joinT [] (l.map (List.map φ)) = (joinT [] l).map φ := by
  rw [joinT_nil, joinT_nil, List.map_flatten]
theorem stripQ_map (addr : Tx) : stripQ (addr.map φ) = (stripQ addr).map φ := by
  have h34 : [34].map φ = [34] := R.consts [34] (by decide)
  have h1 := subIn_map R [34] addr
  rw [h34] at h1
  unfold stripQ
  rw [h1, escGo_map R]
  have h2 := stripGo_map R addr (escGo 0 false addr) 0 none []
  rw [List.map_nil] at h2
  rw [h2]
  split
  · unfold stripF
    simp only [List.length_map]
    split
    · rw [← joinT_map R, List.map_append, List.map_cons, List.map_nil, List.map_drop]
    · rw [joinT_map R]
  · rfl
theorem checkP_map (addr : Tx) : checkP (addr.map φ) = checkP addr := by
  unfold checkP
  rw [stripQ_map R, escGo_map R, checkRun_map R]
theorem lt_map : ∀ (a b : Tx), (a.map φ < b.map φ) ↔ a < b
  | a, [] => by simp
  | [], b :: bs => by simp
  | a :: as, b :: bs => by
    rw [List.map_cons, List.map_cons, List.cons_lt_cons_iff, List.cons_lt_cons_iff, R.iff, R.eq, lt_map as bs]
theorem collI_map (a b : Tx) : collI (a.map φ) (b.map φ) = collI a b := by
  unfold collI
  have h1 : decide (b.map φ < a.map φ) = decide (b < a) := by rw [Bool.eq_iff_iff, decide_eq_true_eq, decide_eq_true_eq, lt_map R]
  have h2 : decide (a.map φ < b.map φ) = decide (a < b) := by rw [Bool.eq_iff_iff, decide_eq_true_eq, decide_eq_true_eq, lt_map R]
  rw [h1, h2]
theorem filter_map (p q : Nat → Bool) (l : Tx) (h : ∀ x, p (φ x) = q x) : (l.map φ).filter p = (l.filter q).map φ := by
  rw [List.filter_map]
  congr 2
  funext x
  exact h x
theorem notPar_map (x : Nat) : notPar (φ x) = notPar x := by
  unfold notPar
  have h := subIn_map R [x] [40, 41]
  rw [R.consts [40, 41] (by decide)] at h
  rw [← h]; rfl
theorem eqT_map (a b : Tx) : (a.map φ == b.map φ) = (a == b) := by
  rw [Bool.eq_iff_iff, beq_iff_eq, beq_iff_eq]
  exact List.map_inj_right (fun a b h => (R.eq a b).mp h)
theorem getD_map (word : Tx) (k : Nat) (h : k < word.length) : (word.map φ).getD k 0 = φ (word.getD k 0) := by
  rw [List.getD_eq_getElem?_getD, List.getD_eq_getElem?_getD, List.getElem?_map, List.getElem?_eq_getElem h]; rfl
theorem joinSep_map (sep : Tx) (l : List Tx) : joinT (sep.map φ) (l.map (List.map φ)) = (joinT sep l).map φ := by
  cases l with
  | nil => rfl
  | cons a r =>
    show (r.map (List.map φ)).foldl (fun acc p => acc ++ sep.map φ ++ p) (a.map φ) = (r.foldl (fun acc p => acc ++ sep ++ p) a).map φ
    induction r generalizing a with
    | nil => rfl
    | cons b r ih =>
      rw [List.map_cons, List.foldl_cons, List.foldl_cons, ← ih, List.map_append, List.map_append]
end
def ins (x : Nat) : Tx → Tx
  | [] => [x]
  | y :: t => if x < y then x :: y :: t else if x = y then y :: t else y :: ins x t
def srt : Tx → Tx
  | [] => []
  | x :: t => ins x (srt t)
theorem mem_ins (x y : Nat) : ∀ l : Tx, y ∈ ins x l ↔ y = x ∨ y ∈ l
  | [] => by simp [ins]
  | z :: t => by
    unfold ins
    split
    · simp
    · split
      · rename_i h; subst h; simp
      · simp only [List.mem_cons, mem_ins x y t]
        constructor
        · rintro (h | h | h) <;> simp [h]
        · rintro (h | h | h) <;> simp [h]
theorem mem_srt (y : Nat) : ∀ l : Tx, y ∈ srt l ↔ y ∈ l
  | [] => by simp [srt]
  | x :: t => by unfold srt; rw [mem_ins, mem_srt y t, List.mem_cons]
theorem ins_len (x : Nat) : ∀ l : Tx, (ins x l).length ≤ l.length + 1
  | [] => by simp [ins]
  | z :: t => by
    unfold ins
    split
    · simp
    · split
      · simp
      · have := ins_len x t; simp; omega
theorem srt_len : ∀ l : Tx, (srt l).length ≤ l.length
  | [] => by simp [srt]
  | x :: t => by
    unfold srt
    have := ins_len x (srt t)
    have := srt_len t
    simp; omega
theorem ins_srt (x : Nat) : ∀ l : Tx, l.Pairwise (· < ·) → (ins x l).Pairwise (· < ·)
  | [], h => by simp [ins]
  | z :: t, h => by
    rw [List.pairwise_cons] at h
    unfold ins
    split
    · rename_i hx
      rw [List.pairwise_cons, List.pairwise_cons]
      refine ⟨fun y hy => ?_, h⟩
      rcases List.mem_cons.mp hy with rfl | hy
      · exact hx
      · exact Nat.lt_trans hx (h.1 y hy)
    · split
      · rw [List.pairwise_cons]; exact h
      · rw [List.pairwise_cons]
        refine ⟨fun y hy => ?_, ins_srt x t h.2⟩
        rcases (mem_ins x y t).mp hy with rfl | hy
        · omega
        · exact h.1 y hy
theorem srt_srt : ∀ l : Tx, (srt l).Pairwise (· < ·)
  | [] => .nil
  | x :: t => ins_srt x _ (srt_srt t)
def renOf (D : Tx) (n : Nat) : Nat := if n < 97 then n else (D[n - 97]?).getD (n + 26)
theorem ren_of (D : Tx) (hs : D.Pairwise (· < ·)) (hb : ∀ x ∈ D, 97 ≤ x ∧ x < 123) : Ren (renOf D) where
  fix := fun n h => by unfold renOf; rw [if_pos h]
  lt := fun a b h => by
    have key : ∀ n, 97 ≤ n → (∃ hn : n - 97 < D.length, renOf D n = D[n - 97] ∧ 97 ≤ D[n - 97] ∧ D[n - 97] < 123) ∨ (D.length ≤ n - 97 ∧ renOf D n = n + 26) := fun n hn => by
      unfold renOf
      rw [if_neg (by omega)]
      rcases Nat.lt_or_ge (n - 97) D.length with q | q
      · refine .inl ⟨q, by rw [List.getElem?_eq_getElem q]; rfl, hb _ (List.getElem_mem q)⟩
      · refine .inr ⟨q, by rw [List.getElem?_eq_none q]; rfl⟩
    rcases Nat.lt_or_ge b 97 with hb' | hb'
    · unfold renOf; rw [if_pos (by omega), if_pos hb']; exact h
    · rcases Nat.lt_or_ge a 97 with ha' | ha'
      · have ea : renOf D a = a := by unfold renOf; rw [if_pos ha']
        rcases key b hb' with ⟨_, e, g, _⟩ | ⟨_, e⟩ <;> rw [ea, e] <;> omega
      · rcases key a ha' with ⟨q, e, g, g'⟩ | ⟨q, e⟩
        · rcases key b hb' with ⟨r, e', _, _⟩ | ⟨_, e'⟩
          · rw [e, e']
            exact List.pairwise_iff_getElem.mp hs (a - 97) (b - 97) q r (by omega)
          · rw [e, e']; omega
        · rcases key b hb' with ⟨r, e', _, _⟩ | ⟨_, e'⟩
          · omega
          · rw [e, e']; omega
theorem idx_srt (D : Tx) (hs : D.Pairwise (· < ·)) (i : Nat) (h : i < D.length) : D.idxOf D[i] = i := by
  have h1 : D.idxOf D[i] < D.length := List.idxOf_lt_length_of_mem (List.getElem_mem h)
  have h2 : D[D.idxOf D[i]] = D[i] := List.getElem_idxOf h1
  have p := List.pairwise_iff_getElem.mp hs
  rcases Nat.lt_trichotomy (D.idxOf D[i]) i with q | q | q
  · have := p _ _ h1 h q; omega
  · exact q
  · have := p _ _ h h1 q; omega
def dense (st : Tx) : Bool := st.all fun x => x == 97 || st.contains (x - 1)
theorem patt (w : Tx) (hw : ∀ x ∈ w, 97 ≤ x ∧ x < 123) : ∃ φ st, Ren φ ∧ w = st.map φ ∧ st.length = w.length ∧ (∀ x ∈ st, 97 ≤ x ∧ x < 97 + w.length) ∧ dense st = true := by
  have hs := srt_srt w
  have hm : ∀ x, x ∈ srt w ↔ x ∈ w := fun x => mem_srt x w
  have hl := srt_len w
  generalize srt w = D at *
  refine ⟨renOf D, w.map fun x => 97 + D.idxOf x, ren_of D hs (fun x hx => hw x ((hm x).mp hx)), ?_, by simp, ?_, ?_⟩
  · rw [List.map_map]
    conv => lhs; rw [← List.map_id' w]
    apply List.map_congr_left
    intro x hx
    have h1 : D.idxOf x < D.length := List.idxOf_lt_length_of_mem ((hm x).mpr hx)
    show x = renOf D (97 + D.idxOf x)
    unfold renOf
    rw [if_neg (by omega), Nat.add_sub_cancel_left, List.getElem?_eq_getElem h1]
    exact (List.getElem_idxOf h1).symm
  · intro x hx
    obtain ⟨y, hy, rfl⟩ := List.mem_map.mp hx
    have h1 : D.idxOf y < D.length := List.idxOf_lt_length_of_mem ((hm y).mpr hy)
    omega
  · unfold dense
    rw [List.all_eq_true]
    intro x hx
    obtain ⟨y, hy, rfl⟩ := List.mem_map.mp hx
    have h1 : D.idxOf y < D.length := List.idxOf_lt_length_of_mem ((hm y).mpr hy)
    rw [Bool.or_eq_true, beq_iff_eq, List.contains_iff_mem, List.mem_map]
    rcases Nat.eq_zero_or_pos (D.idxOf y) with q | q
    · exact .inl (by omega)
    · refine .inr ⟨D[D.idxOf y - 1], (hm _).mp (List.getElem_mem _), ?_⟩
      rw [idx_srt D hs]
      omega
end Mine
namespace Mine

/-! twins: the same functions by the recursors themselves, which the kernel steps through some twenty times faster -/
noncomputable section
variable {α β : Type}
def sel (c : Bool) (t e : α) : α := Bool.rec (motive := fun _ => α) e t c
theorem sel_ite (c : Bool) (t e : α) : sel c t e = if c = true then t else e := by cases c <;> rfl
theorem sel_and (c t : Bool) : sel c t false = (c && t) := by cases c <;> rfl
theorem sel_or (c t : Bool) : sel c true t = (c || t) := by cases c <;> rfl
theorem nbeq (x y : Nat) : Nat.beq x y = (x == y) := by rw [Bool.eq_iff_iff, Nat.beq_eq, beq_iff_eq]
theorem nblt (x y : Nat) : Nat.ble (Nat.succ x) y = decide (x < y) := by rw [Bool.eq_iff_iff, Nat.ble_eq, decide_eq_true_eq]; exact Iff.rfl
theorem nble (x y : Nat) : Nat.ble x y = decide (x ≤ y) := by rw [Bool.eq_iff_iff, Nat.ble_eq, decide_eq_true_eq]

def appF (a b : List α) : List α := List.rec (motive := fun _ => List α) b (fun x _ ih => x :: ih) a
theorem appF_eq : ∀ (a b : List α), a ++ b = appF a b
  | [], b => rfl
  | x :: a, b => congrArg (x :: ·) (appF_eq a b)
def filtF (p : α → Bool) (l : List α) : List α := List.rec (motive := fun _ => List α) [] (fun x _ ih => sel (p x) (x :: ih) ih) l
theorem filtF_eq (p : α → Bool) : ∀ l : List α, l.filter p = filtF p l
  | [] => rfl
  | x :: l => by
    show _ = sel (p x) (x :: filtF p l) (filtF p l)
    rw [← filtF_eq p l, List.filter_cons, sel_ite]
def anyF (p : α → Bool) (l : List α) : Bool := List.rec (motive := fun _ => Bool) false (fun x _ ih => sel (p x) true ih) l
theorem anyF_eq (p : α → Bool) : ∀ l : List α, l.any p = anyF p l
  | [] => rfl
  | x :: l => by
    show _ = sel (p x) true (anyF p l)
    rw [← anyF_eq p l, List.any_cons, sel_or]
def allF (p : α → Bool) (l : List α) : Bool := List.rec (motive := fun _ => Bool) true (fun x _ ih => sel (p x) ih false) l
theorem allF_eq (p : α → Bool) : ∀ l : List α, l.all p = allF p l
  | [] => rfl
  | x :: l => by
    show _ = sel (p x) (allF p l) false
    rw [← allF_eq p l, List.all_cons, sel_and]
def mapF (f : α → β) (l : List α) : List β := List.rec (motive := fun _ => List β) [] (fun x _ ih => f x :: ih) l
theorem mapF_eq (f : α → β) : ∀ l : List α, l.map f = mapF f l
  | [] => rfl
  | x :: l => congrArg (f x :: ·) (mapF_eq f l)
def lenF (l : List α) : Nat := List.rec (motive := fun _ => Nat) 0 (fun _ _ ih => Nat.add ih 1) l
theorem lenF_eq : ∀ l : List α, l.length = lenF l
  | [] => rfl
  | x :: l => congrArg (· + 1) (lenF_eq l)
def takeF (n : Nat) : List α → List α := Nat.rec (motive := fun _ => List α → List α) (fun _ => []) (fun _ ih l => List.rec (motive := fun _ => List α) [] (fun x t _ => x :: ih t) l) n
theorem takeF_eq : ∀ (n : Nat) (l : List α), l.take n = takeF n l
  | 0, l => by rw [List.take_zero]; rfl
  | n + 1, [] => rfl
  | n + 1, x :: t => congrArg (x :: ·) (takeF_eq n t)
def dropF (n : Nat) : List α → List α := Nat.rec (motive := fun _ => List α → List α) (fun l => l) (fun _ ih l => List.rec (motive := fun _ => List α) [] (fun _ t _ => ih t) l) n
theorem dropF_eq : ∀ (n : Nat) (l : List α), l.drop n = dropF n l
  | 0, l => rfl
  | n + 1, [] => rfl
  | n + 1, x :: t => dropF_eq n t
def nthF (l : List α) (n : Nat) : Option α := List.rec (motive := fun _ => Option α) none (fun x _ _ => some x) (dropF n l)
theorem nthF_eq : ∀ (l : List α) (n : Nat), l[n]? = nthF l n
  | [], n => by cases n <;> rfl
  | x :: t, 0 => rfl
  | x :: t, n + 1 => by rw [List.getElem?_cons_succ]; exact nthF_eq t n
def nthD (l : List α) (n : Nat) (d : α) : α := List.rec (motive := fun _ => α) d (fun x _ _ => x) (dropF n l)
theorem nthD_eq : ∀ (l : List α) (n : Nat) (d : α), l.getD n d = nthD l n d
  | [], n, d => by cases n <;> rfl
  | x :: t, 0, d => rfl
  | x :: t, n + 1, d => by rw [List.getD_cons_succ]; exact nthD_eq t n d
def lastF (l : List α) (d : α) : α := List.rec (motive := fun _ => α → α) (fun d => d) (fun x _ ih _ => ih x) l d
theorem lastF_eq : ∀ (l : List α) (d : α), l.getLastD d = lastF l d
  | [], d => rfl
  | x :: t, d => by
    rw [List.getLastD_cons]
    exact lastF_eq t x
def initF (l : List α) : List α := List.rec (motive := fun _ => List α) [] (fun x t ih => List.rec (motive := fun _ => List α) [] (fun _ _ _ => x :: ih) t) l
theorem initF_eq : ∀ l : List α, l.dropLast = initF l
  | [] => rfl
  | [x] => rfl
  | x :: y :: t => by
    rw [List.dropLast_cons_cons, initF_eq (y :: t)]
    rfl
def empF (l : List α) : Bool := List.rec (motive := fun _ => Bool) true (fun _ _ _ => false) l
theorem empF_eq (l : List α) : l.isEmpty = empF l := by cases l <;> rfl
def headF (l : List α) (d : α) : α := List.rec (motive := fun _ => α) d (fun x _ _ => x) l
theorem headF_eq (l : List α) (d : α) : l.headD d = headF l d := by cases l <;> rfl
def tailF (l : List α) : List α := List.rec (motive := fun _ => List α) [] (fun _ t _ => t) l
theorem tailF_eq (l : List α) : l.tail = tailF l := by cases l <;> rfl
def flatF (l : List (List α)) : List α := List.rec (motive := fun _ => List α) [] (fun x _ ih => appF x ih) l
theorem flatF_eq : ∀ l : List (List α), l.flatten = flatF l
  | [] => rfl
  | x :: l => by
    show _ = appF x (flatF l)
    rw [← flatF_eq l, ← appF_eq, List.flatten_cons]
def repF (n : Nat) (x : α) : List α := Nat.rec (motive := fun _ => List α) [] (fun _ ih => x :: ih) n
theorem repF_eq (x : α) : ∀ n, List.replicate n x = repF n x
  | 0 => rfl
  | n + 1 => congrArg (x :: ·) (repF_eq x n)

def eqT (a : Tx) : Tx → Bool := List.rec (motive := fun _ => Tx → Bool) (fun b => empF b) (fun x _ ih b => List.rec (motive := fun _ => Bool) false (fun y t _ => sel (Nat.beq x y) (ih t) false) b) a
theorem eqT_iff : ∀ a b : Tx, eqT a b = true ↔ a = b
  | [], b => by cases b <;> simp [eqT, empF]
  | x :: a, [] => by simp [eqT]
  | x :: a, y :: b => by
    show sel (Nat.beq x y) (eqT a b) false = true ↔ _
    rw [sel_and, nbeq, Bool.and_eq_true, beq_iff_eq, eqT_iff a b, List.cons.injEq]
theorem eqT_eq (a b : Tx) : (a == b) = eqT a b := by rw [Bool.eq_iff_iff, beq_iff_eq, eqT_iff]
def eqTT (a : List Tx) : List Tx → Bool := List.rec (motive := fun _ => List Tx → Bool) (fun b => empF b) (fun x _ ih b => List.rec (motive := fun _ => Bool) false (fun y t _ => sel (eqT x y) (ih t) false) b) a
def memF (x : Nat) (l : Tx) : Bool := anyF (Nat.beq x) l
theorem memF_iff (x : Nat) (l : Tx) : memF x l = true ↔ x ∈ l := by
  unfold memF
  rw [← anyF_eq, List.any_eq_true]
  constructor
  · rintro ⟨y, hy, h⟩
    rw [Nat.beq_eq] at h
    exact h ▸ hy
  · intro h
    exact ⟨x, h, by rw [Nat.beq_eq]⟩

def preF (a : Tx) : Tx → Bool := List.rec (motive := fun _ => Tx → Bool) (fun _ => true) (fun x _ ih b => List.rec (motive := fun _ => Bool) false (fun y t _ => sel (Nat.beq x y) (ih t) false) b) a
theorem preF_eq : ∀ (a b : Tx), prefixB a b = preF a b
  | [], b => by cases b <;> rfl
  | x :: a, [] => rfl
  | x :: a, y :: b => by
    show (x == y && prefixB a b) = sel (Nat.beq x y) (preF a b) false
    rw [preF_eq a b, sel_and, nbeq]
def subF (s : Tx) (b : Tx) : Bool := List.rec (motive := fun _ => Bool) (preF s []) (fun x t ih => sel (preF s (x :: t)) true ih) b
theorem subF_eq (s : Tx) : ∀ b : Tx, subIn s b = subF s b
  | [] => preF_eq s []
  | x :: t => by
    show (prefixB s (x :: t) || subIn s t) = sel (preF s (x :: t)) true (subF s t)
    rw [subF_eq s t, sel_or, preF_eq]
theorem subOne (x : Nat) : ∀ l : Tx, subIn [x] l = memF x l
  | [] => rfl
  | y :: t => by
    show ((x == y && prefixB [] t) || subIn [x] t) = sel (Nat.beq x y) true (memF x t)
    rw [subOne x t, sel_or, nbeq]
    cases t <;> simp [prefixB]
def sufF (b a : Tx) : Bool := sel (Nat.ble (lenF b) (lenF a)) (preF b (dropF (Nat.sub (lenF a) (lenF b)) a)) false
theorem sufF_eq (b a : Tx) : suffixB b a = sufF b a := by
  unfold suffixB sufF
  rw [sel_and, nble, ← lenF_eq, ← lenF_eq, ← dropF_eq, preF_eq]
  rfl
def splF (sp : Tx) (m : Nat) (x : Tx) : Nat → Tx → List Tx := List.rec (motive := fun _ => Nat → Tx → List Tx) (fun _ cur => [cur])
  (fun x t ih k cur => Nat.rec (motive := fun _ => List Tx) (sel (preF sp (x :: t)) (cur :: ih m []) (ih 0 (appF cur [x]))) (fun k' _ => ih k' cur) k) x
theorem splF_eq (sp : Tx) : ∀ (x : Tx) (k : Nat) (cur : Tx), splitGo sp k cur x = splF sp (sp.length - 1) x k cur
  | [], k, cur => by cases k <;> rfl
  | x :: t, 0, cur => by
    show (if prefixB sp (x :: t) = true then cur :: splitGo sp (sp.length - 1) [] t else splitGo sp 0 (cur ++ [x]) t) = sel (preF sp (x :: t)) (cur :: splF sp (sp.length - 1) t (sp.length - 1) []) (splF sp (sp.length - 1) t 0 (appF cur [x]))
    rw [sel_ite, preF_eq, splF_eq sp t, splF_eq sp t, appF_eq]
  | x :: t, k + 1, cur => splF_eq sp t k cur
def fndF (sub : Tx) (n hi : Nat) (x : Tx) : Nat → Option Nat := List.rec (motive := fun _ => Nat → Option Nat) (fun i => sel (Nat.ble (Nat.add i n) hi) (sel (preF sub []) (some i) none) none)
  (fun x t ih i => sel (Nat.ble (Nat.add i n) hi) (sel (preF sub (x :: t)) (some i) (ih (Nat.add i 1))) (ih (Nat.add i 1))) x
theorem ite_and2 {p : Bool} {q : Bool} (a b : α) : (if (p && q) = true then a else b) = if p = true then (if q = true then a else b) else b := by cases p <;> cases q <;> rfl
theorem fndF_eq (sub : Tx) (hi : Nat) : ∀ (x : Tx) (i : Nat), findGo sub hi i x = fndF sub sub.length hi x i
  | [], i => by
    show (if (decide (i + sub.length ≤ hi) && prefixB sub []) = true then some i else none) = sel (Nat.ble (i + sub.length) hi) (sel (preF sub []) (some i) none) none
    rw [sel_ite, sel_ite, nble, ← preF_eq, ite_and2]
  | x :: t, i => by
    show (if (decide (i + sub.length ≤ hi) && prefixB sub (x :: t)) = true then some i else findGo sub hi (i + 1) t) = sel (Nat.ble (i + sub.length) hi) (sel (preF sub (x :: t)) (some i) (fndF sub sub.length hi t (i + 1))) (fndF sub sub.length hi t (i + 1))
    rw [sel_ite, sel_ite, nble, ← preF_eq, ← fndF_eq sub hi t, ite_and2]
def midF (got : Tx) (hi : Nat) (ws : List Tx) : Nat → Bool := List.rec (motive := fun _ => Nat → Bool) (fun _ => true)
  (fun w _ ih lo => Option.rec (motive := fun _ => Bool) false (fun k => ih (Nat.add k (lenF w))) (fndF w (lenF w) hi (dropF lo got) lo)) ws
theorem midF_eq (got : Tx) (hi : Nat) : ∀ (ws : List Tx) (lo : Nat), ellMid got hi ws lo = midF got hi ws lo
  | [], lo => rfl
  | w :: ws, lo => by
    show _ = Option.rec (motive := fun _ => Bool) false (fun k => midF got hi ws (Nat.add k (lenF w))) (fndF w (lenF w) hi (dropF lo got) lo)
    rw [← lenF_eq, ← dropF_eq, ← fndF_eq]
    cases h : findGo w hi lo (got.drop lo) with
    | none => rw [ellMid_none h]
    | some k => rw [ellMid_some h, midF_eq got hi ws]; rfl
def ellCF (got : Tx) (lo hi : Nat) (ws : List Tx) : Bool := sel (Nat.ble lo hi) (midF got hi ws lo) false
theorem ellCF_eq (got : Tx) (lo hi : Nat) (ws : List Tx) : ellC got lo hi ws = ellCF got lo hi ws := by
  unfold ellC ellCF
  rw [sel_and, nble, midF_eq]
  by_cases h : hi < lo
  · rw [if_pos h, decide_eq_false (by omega)]; rfl
  · rw [if_neg h, decide_eq_true (by omega)]; rfl
def ellBF (got : Tx) (lo : Nat) (ws : List Tx) : Bool := sel (empF (lastF ws [])) (ellCF got lo (lenF got) ws) (sel (sufF (lastF ws []) got) (ellCF got lo (Nat.sub (lenF got) (lenF (lastF ws []))) (initF ws)) false)
theorem ellBF_eq (got : Tx) (lo : Nat) (ws : List Tx) : ellB got lo ws = ellBF got lo ws := by
  unfold ellB ellBF
  rw [sel_ite, sel_ite, ← lastF_eq, ← empF_eq, ← sufF_eq, ← ellCF_eq, ← ellCF_eq, ← lenF_eq, ← lenF_eq, ← initF_eq]
  rfl
def ellAF (got : Tx) (ws : List Tx) : Bool := sel (empF (headF ws [])) (ellBF got 0 ws) (sel (preF (headF ws []) got) (ellBF got (lenF (headF ws [])) (tailF ws)) false)
theorem ellAF_eq (got : Tx) (ws : List Tx) : ellA got ws = ellAF got ws := by
  unfold ellA ellAF
  rw [sel_ite, sel_ite, ← headF_eq, ← empF_eq, ← preF_eq, ← ellBF_eq, ← ellBF_eq, ← lenF_eq, ← tailF_eq]
def ellMF (want got : Tx) : Bool := sel (subF [46, 46, 46] want) (ellAF got (splF [46, 46, 46] 2 want 0 [])) (eqT want got)
theorem ellMF_eq (want got : Tx) : ellM want got = ellMF want got := by
  unfold ellM ellMF splitE
  rw [sel_ite, splF_eq, ellAF_eq, eqT_eq, subF_eq]
  rfl

/-! the brackets -/
def escF (l : Tx) : Nat → Bool → List (Nat × Tx) := List.rec (motive := fun _ => Nat → Bool → List (Nat × Tx)) (fun i esc => sel esc [(Nat.sub i 1, [92])] [])
  (fun x t ih i esc => sel esc ((i, [92, x]) :: ih (Nat.add i 1) false) (sel (Nat.beq x 92) (ih (Nat.add i 1) true) ((i, [x]) :: ih (Nat.add i 1) false))) l
theorem escF_eq : ∀ (l : Tx) (i : Nat) (b : Bool), escGo i b l = escF l i b
  | [], i, b => by cases b <;> rfl
  | x :: t, i, true => by
    show (i, [92, x]) :: escGo (i + 1) false t = (i, [92, x]) :: escF t (i + 1) false
    rw [escF_eq t]
  | x :: t, i, false => by
    show (if (x == 92) = true then escGo (i + 1) true t else (i, [x]) :: escGo (i + 1) false t) = sel (Nat.beq x 92) (escF t (i + 1) true) ((i, [x]) :: escF t (i + 1) false)
    rw [sel_ite, nbeq, escF_eq t, escF_eq t]
def eq1 (ch : Tx) (n : Nat) : Bool := List.rec (motive := fun _ => Bool) false (fun x t _ => sel (Nat.beq x n) (empF t) false) ch
theorem eq1_eq (ch : Tx) (n : Nat) : (ch == [n]) = eq1 ch n := by
  cases ch with
  | nil => rfl
  | cons x t =>
    show _ = sel (Nat.beq x n) (empF t) false
    rw [sel_and, nbeq, ← empF_eq, Bool.eq_iff_iff]
    simp
def chkF (l : List (Nat × Tx)) : Nat → Bool := List.rec (motive := fun _ => Nat → Bool) (fun o => Nat.beq o 0)
  (fun p _ ih o => sel (eq1 p.2 40) (ih (Nat.add o 1)) (sel (eq1 p.2 41) (Nat.rec (motive := fun _ => Bool) false (fun o' _ => ih o') o) (ih o))) l
def outO : Option Int → Bool
  | none => false
  | some o => o == 0
theorem chkF_eq : ∀ (l : List (Nat × Tx)) (o : Nat), outO (checkRun l (o : Int)) = chkF l o
  | [], o => by
    show ((o : Int) == 0) = Nat.beq o 0
    rw [nbeq, Bool.eq_iff_iff]
    simp
  | (p, ch) :: r, o => by
    show _ = sel (eq1 ch 40) (chkF r (o + 1)) (sel (eq1 ch 41) (Nat.rec (motive := fun _ => Bool) false (fun o' _ => chkF r o') o) (chkF r o))
    have ih := chkF_eq r
    rw [← eq1_eq, ← eq1_eq, sel_ite, sel_ite]
    by_cases h1 : (ch == [40]) = true
    · have e : checkRun ((p, ch) :: r) (o : Int) = checkRun r ((o + 1 : Nat) : Int) := by
        rw [checkRun, if_pos h1]; rfl
      rw [e, if_pos h1, ih]
    · by_cases h2 : (ch == [41]) = true
      · rw [if_neg h1, if_pos h2]
        cases o with
        | zero =>
          have e : checkRun ((p, ch) :: r) ((0 : Nat) : Int) = none := by
            rw [checkRun, if_neg h1, if_pos h2]; rfl
          rw [e]; rfl
        | succ o' =>
          have e : checkRun ((p, ch) :: r) ((o' + 1 : Nat) : Int) = checkRun r (o' : Int) := by
            rw [checkRun, if_neg h1, if_pos h2, if_neg (by simp), show ((o' + 1 : Nat) : Int) - 1 = (o' : Int) from by omega]
          rw [e, ih]
      · have e : checkRun ((p, ch) :: r) (o : Int) = checkRun r (o : Int) := by
          rw [checkRun, if_neg h1, if_neg h2]
        rw [e, if_neg h1, if_neg h2, ih]
def slF (l : Tx) (a b : Nat) : Tx := takeF (Nat.sub b a) (dropF a l)
theorem slF_eq (l : Tx) (a b : Nat) : slcN l a b = slF l a b := by
  unfold slcN slF; rw [takeF_eq, dropF_eq]; rfl
def strF (addr : Tx) (l : List (Nat × Tx)) : Nat → Option Nat → List Tx → Nat × List Tx := List.rec (motive := fun _ => Nat → Option Nat → List Tx → Nat × List Tx) (fun st _ res => (st, res))
  (fun p _ ih st op res => sel (eq1 p.2 34) (Option.rec (motive := fun _ => Nat × List Tx) (ih st (some p.1) res) (fun o => ih (Nat.add p.1 1) none (sel (Nat.beq st o) res (appF res [slF addr st o]))) op) (ih st op res)) l
theorem strF_eq (addr : Tx) : ∀ (l : List (Nat × Tx)) (st : Nat) (op : Option Nat) (res : List Tx), stripGo addr l st op res = strF addr l st op res
  | [], st, op, res => rfl
  | (p, ch) :: r, st, op, res => by
    show _ = sel (eq1 ch 34) (Option.rec (motive := fun _ => Nat × List Tx) (strF addr r st (some p) res) (fun o => strF addr r (p + 1) none (sel (Nat.beq st o) res (appF res [slF addr st o]))) op) (strF addr r st op res)
    unfold stripGo
    rw [← eq1_eq, sel_ite]
    split
    · cases op with
      | none => exact strF_eq addr r _ _ _
      | some o =>
        show stripGo addr r (p + 1) none _ = strF addr r (p + 1) none _
        rw [strF_eq addr r, sel_ite, nbeq, ← appF_eq, ← slF_eq]
        congr 1
        by_cases h : st = o
        · subst h; simp
        · simp [h]
    · exact strF_eq addr r _ _ _
def strQF (addr : Tx) : Tx := sel (memF 34 addr) (flatF (sel (Nat.ble (Nat.succ (strF addr (escF addr 0 false) 0 none []).1) (lenF addr)) (appF (strF addr (escF addr 0 false) 0 none []).2 [dropF (strF addr (escF addr 0 false) 0 none []).1 addr]) (strF addr (escF addr 0 false) 0 none []).2)) addr
theorem strQF_eq (addr : Tx) : stripQ addr = strQF addr := by
  unfold stripQ strQF stripF
  rw [joinT_nil, subOne, sel_ite, sel_ite, ← flatF_eq, strF_eq, escF_eq, nblt, ← lenF_eq, ← appF_eq, ← dropF_eq]
def dirty (l : Tx) : Bool := anyF (fun x => sel (Nat.beq x 34) true (Nat.beq x 92)) l
theorem dirty_eq (l : Tx) : dirty l = l.any fun x => x == 34 || x == 92 := by
  unfold dirty
  rw [← anyF_eq]
  congr 1
  funext x
  rw [sel_or, nbeq, nbeq]
def parF (l : Tx) : Nat → Bool := List.rec (motive := fun _ => Nat → Bool) (fun o => Nat.beq o 0)
  (fun x _ ih o => sel (Nat.beq x 40) (ih (Nat.add o 1)) (sel (Nat.beq x 41) (Nat.rec (motive := fun _ => Bool) false (fun o' _ => ih o') o) (ih o))) l
theorem parF_eq : ∀ (l : Tx) (i o : Nat), dirty l = false → chkF (escGo i false l) o = parF l o
  | [], i, o, h => rfl
  | x :: t, i, o, h => by
    rw [dirty_eq, List.any_cons, Bool.or_eq_false_iff, Bool.or_eq_false_iff] at h
    have ht := h.2
    rw [← dirty_eq] at ht
    unfold escGo
    rw [h.1.2, if_neg (by decide)]
    show sel (eq1 [x] 40) (chkF (escGo (i + 1) false t) (o + 1)) (sel (eq1 [x] 41) (Nat.rec (motive := fun _ => Bool) false (fun o' _ => chkF (escGo (i + 1) false t) o') o) (chkF (escGo (i + 1) false t) o)) =
      sel (Nat.beq x 40) (parF t (o + 1)) (sel (Nat.beq x 41) (Nat.rec (motive := fun _ => Bool) false (fun o' _ => parF t o') o) (parF t o))
    have e : ∀ n, eq1 [x] n = Nat.beq x n := fun n => by
      show sel (Nat.beq x n) true false = _
      cases Nat.beq x n <;> rfl
    rw [e, e, parF_eq t _ _ ht, parF_eq t _ _ ht]
    cases o with
    | zero => rfl
    | succ o' => 
      show sel (Nat.beq x 40) _ (sel (Nat.beq x 41) (chkF (escGo (i + 1) false t) o') _) = sel (Nat.beq x 40) _ (sel (Nat.beq x 41) (parF t o') _)
      rw [parF_eq t _ _ ht]
def checkPF (addr : Tx) : Bool := sel (dirty addr) (chkF (escF (strQF addr) 0 false) 0) (parF addr 0)
theorem checkPF_eq (addr : Tx) : checkP addr = checkPF addr := by
  unfold checkP checkPF
  have e : outO (checkRun (escGo 0 false (stripQ addr)) 0) = chkF (escGo 0 false (stripQ addr)) 0 := chkF_eq (escGo 0 false (stripQ addr)) 0
  refine Eq.trans ?_ (e.trans ?_)
  · cases checkRun (escGo 0 false (stripQ addr)) 0 <;> rfl
  · cases hd : dirty addr with
    | true => 
      show chkF (escGo 0 false (stripQ addr)) 0 = chkF (escF (strQF addr) 0 false) 0
      rw [escF_eq, strQF_eq]
    | false =>
      show chkF (escGo 0 false (stripQ addr)) 0 = parF addr 0
      have hs : stripQ addr = addr := by
        unfold stripQ
        rw [if_neg]
        intro hc
        rw [subOne, memF_iff] at hc
        rw [dirty_eq] at hd
        have := List.any_eq_false.mp hd 34 hc
        simp at this
      rw [hs, parF_eq addr 0 0 hd]

/-! the order -/
def ltF (a : Tx) : Tx → Bool := List.rec (motive := fun _ => Tx → Bool) (fun b => List.rec (motive := fun _ => Bool) false (fun _ _ _ => true) b) (fun x _ ih b => List.rec (motive := fun _ => Bool) false (fun y t _ => sel (Nat.ble (Nat.succ x) y) true (sel (Nat.beq x y) (ih t) false)) b) a
theorem ltF_iff : ∀ a b : Tx, ltF a b = true ↔ a < b
  | [], [] => by simp [ltF]
  | [], y :: t => by simp [ltF]
  | x :: a, [] => by simp [ltF]
  | x :: a, y :: b => by
    show sel (Nat.ble (Nat.succ x) y) true (sel (Nat.beq x y) (ltF a b) false) = true ↔ _
    rw [sel_or, sel_and, nblt, nbeq, List.cons_lt_cons_iff, Bool.or_eq_true, Bool.and_eq_true, decide_eq_true_eq, beq_iff_eq, ltF_iff a b]
theorem ltF_eq (a b : Tx) : decide (a < b) = ltF a b := by rw [Bool.eq_iff_iff, decide_eq_true_eq, ltF_iff]
theorem ltT_asymm (a b : Tx) (h : a < b) : ¬ b < a := List.lt_asymm h
theorem coll_m1 (a b : Tx) : (collI a b == -1) = ltF a b := by
  unfold collI
  rw [← ltF_eq]
  by_cases h : a < b
  · rw [decide_eq_true h, decide_eq_false (ltT_asymm a b h)]; rfl
  · rw [decide_eq_false h]
    by_cases g : b < a
    · rw [decide_eq_true g]; rfl
    · rw [decide_eq_false g]; rfl
theorem coll_p1 (a b : Tx) : (collI b a == 1) = ltF a b := by
  unfold collI
  rw [← ltF_eq]
  by_cases h : a < b
  · rw [decide_eq_true h, decide_eq_false (ltT_asymm a b h)]; rfl
  · rw [decide_eq_false h]
    by_cases g : b < a
    · rw [decide_eq_true g]; rfl
    · rw [decide_eq_false g]; rfl
theorem coll_0 (a b : Tx) : (collI a b == 0) = eqT a b := by
  unfold collI
  rw [← eqT_eq]
  by_cases h : a < b
  · rw [decide_eq_true h, decide_eq_false (ltT_asymm a b h)]
    have : a ≠ b := fun e => by subst e; exact ltT_asymm a a h h
    simp [this, bi]
  · rw [decide_eq_false h]
    by_cases g : b < a
    · rw [decide_eq_true g]
      have : a ≠ b := fun e => by subst e; exact h g
      simp [this, bi]
    · rw [decide_eq_false g]
      have : a = b := List.le_antisymm g h
      subst this
      simp [bi]
end
end Mine
namespace Mine

abbrev dWord : DefRec := defAt P 12
abbrev dText : DefRec := defAt P 13
abbrev dTold : DefRec := defAt P 14
abbrev dDue : DefRec := defAt P 15
abbrev dRuns : DefRec := defAt P 16
abbrev dPieces : DefRec := defAt P 17
abbrev dRefused : DefRec := defAt P 18
abbrev dIsRun : DefRec := defAt P 19
abbrev dHad : DefRec := defAt P 20
abbrev dLaw : DefRec := defAt P 21

def half2 (x : Int) : Int := (x.fmod 1000000).fdiv 2
def stepW (w : Tx) (x : Int) : Tx :=
  if (x.fmod 2 == 0) && !w.isEmpty then w ++ [w.getD (w.length - 1 - ((half2 x).fmod (w.length : Int)).toNat) 0] else w ++ [(97 + (half2 x).fmod 26).toNat]
def numsW (scr : List Int) : List Int := scr.take 6 ++ ([1, 3, 2, 6, 4, 2] : List Int).drop (scr.take 6).length
def wordGo (scr : List Int) : Tx := (numsW scr).foldl stepW []
def wordF (scr : List Int) : Tx := wordGo scr ++ [(wordGo scr).getLastD 0]
theorem numsW_len (scr : List Int) : (numsW scr).length = 6 := by
  unfold numsW
  rw [List.length_append, List.length_drop, List.length_take]
  simp only [List.length_cons, List.length_nil]
  omega
theorem half2_bd (x : Int) : 0 ≤ half2 x ∧ half2 x < 500000 := by
  have h1 := Int.fmod_nonneg_of_pos x (show (0 : Int) < 1000000 by decide)
  have h2 := Int.fmod_lt_of_pos x (show (0 : Int) < 1000000 by decide)
  unfold half2
  rw [Int.fdiv_eq_ediv_of_nonneg _ (by decide)]
  omega
theorem long2 (y : Int) : Builtin.divisionGoesByPylong y 2 = false := by
  have h : Builtin.divisionGoesByPylong y 2 = (decide ((2 : Int).natAbs.log2 / 30 + 1 > 300) && decide ((if y == 0 then 0 else y.natAbs.log2 / 30 + 1) > (2 : Int).natAbs.log2 / 30 + 1 + 150)) := rfl
  rw [h, decide_eq_false (by decide +kernel)]
  rfl
theorem stepW_len (w : Tx) (x : Int) : (stepW w x).length = w.length + 1 := by
  unfold stepW; split <;> simp
theorem foldW_len : ∀ (l : List Int) (w : Tx), (l.foldl stepW w).length = w.length + l.length
  | [], w => rfl
  | x :: l, w => by rw [List.foldl_cons, foldW_len l, stepW_len, List.length_cons]; omega
theorem stepW_ok (w : Tx) (x : Int) (h : ∀ y ∈ w, 97 ≤ y ∧ y < 123) : ∀ y ∈ stepW w x, 97 ≤ y ∧ y < 123 := by
  unfold stepW
  split
  · rename_i hc
    intro y hy
    rcases List.mem_append.mp hy with hy | hy
    · exact h y hy
    · have hne : w ≠ [] := fun e => by subst e; simp at hc
      have hp : 0 < w.length := List.length_pos_iff.mpr hne
      have hk : w.length - 1 - ((half2 x).fmod (w.length : Int)).toNat < w.length := by omega
      rw [List.mem_singleton.mp hy, List.getD_eq_getElem?_getD, List.getElem?_eq_getElem hk]
      exact h _ (List.getElem_mem hk)
  · intro y hy
    rcases List.mem_append.mp hy with hy | hy
    · exact h y hy
    · rw [List.mem_singleton.mp hy]
      have h1 := Int.fmod_nonneg_of_pos (half2 x) (show (0 : Int) < 26 by decide)
      have h2 := Int.fmod_lt_of_pos (half2 x) (show (0 : Int) < 26 by decide)
      omega
theorem foldW_ok : ∀ (l : List Int) (w : Tx), (∀ y ∈ w, 97 ≤ y ∧ y < 123) → ∀ y ∈ l.foldl stepW w, 97 ≤ y ∧ y < 123
  | [], w, h => h
  | x :: l, w, h => foldW_ok l _ (stepW_ok w x h)

section
variable {G : Gc} {n : Nat} {σ : Loc}
set_option maxHeartbeats 1000000

theorem word_for (nb : NoB G) : ∀ (l : List Int) (w : Tx), w.length + l.length ≤ 100 →
    ExF G n dWord.scope [("word", .val (.str w))] (forTgt (stAt dWord.body 1)) (its l) true (forBody (stAt dWord.body 1)) [] (.next [("word", .val (.str (l.foldl stepW w)))]) := by
  intro l
  induction l with
  | nil => intro w hl; exact ExF.nil (Ex.fin ⟨rfl, trivial⟩)
  | cons x l ih =>
    intro w hl
    simp only [List.length_cons] at hl
    have hb := half2_bd x
    have asg : Ex1 G n dWord.scope [("x", .val (.int x)), ("word", .val (.str w))] (stAt (forBody (stAt dWord.body 1)) 0) (.next [("half", .val (.int (half2 x))), ("x", .val (.int x)), ("word", .val (.str w))]) :=
      Ex1.assign (Ev.bin (Ev.bin (Ev.nm rfl) (Ev.bin Ev.cInt Ev.cInt BinV.pow106) (BinV.modI (by decide))) Ev.cInt (BinV.divI (by decide) (long2 _))) (.inl rfl) (fun _ => rfl)
    have test : EvT G n dWord.scope [("half", .val (.int (half2 x))), ("x", .val (.int x)), ("word", .val (.str w))] (match stAt (forBody (stAt dWord.body 1)) 1 with | .If t _ _ _ => t | _ => default) ((x.fmod 2 == 0) && !w.isEmpty) := by
      refine EvT.to (EvT.bools (EvA.and (a := x.fmod 2 == 0) (EvT.cmp (Ev.bin (Ev.nm rfl) Ev.cInt (BinV.modI (by decide))) Ev.cInt CmpV.eqI rfl) (fun _ => EvA.and (a := !w.isEmpty) (b := true) (EvT.to (EvT.cmp (Ev.nm rfl) (Ev.cStr (c := []) rfl) CmpV.neS rfl) (by cases w <;> rfl)) (fun _ => EvA.and0)))) ?_
      simp
    refine ExF.next (τ' := [("word", .val (.str (stepW w x)))]) (AsV.name (.inl rfl)) (Ex.cons asg ?_) (ih _ (by rw [stepW_len]; omega))
    cases hc : ((x.fmod 2 == 0) && !w.isEmpty) with
    | true =>
      rw [hc] at test
      have e : stepW w x = w ++ [w.getD (w.length - 1 - ((half2 x).fmod (w.length : Int)).toNat) 0] := by unfold stepW; rw [hc]; rfl
      have hne : w ≠ [] := fun e => by subst e; simp at hc
      have hp : 0 < w.length := List.length_pos_iff.mpr hne
      have h1 := Int.fmod_nonneg_of_pos (half2 x) (show (0 : Int) < w.length by omega)
      have h2 := Int.fmod_lt_of_pos (half2 x) (show (0 : Int) < w.length by omega)
      rw [e]
      have ix : getI w (-1 - (half2 x).fmod (w.length : Int)) = some (w.getD (w.length - 1 - ((half2 x).fmod (w.length : Int)).toNat) 0) := by
        have hk : w.length - 1 - ((half2 x).fmod (w.length : Int)).toNat < w.length := by omega
        have := getI_neg (l := w) (k := 1 + ((half2 x).fmod (w.length : Int)).toNat) (by omega) (by omega)
        rw [show (-(((1 + ((half2 x).fmod (w.length : Int)).toNat) : Nat) : Int)) = -1 - (half2 x).fmod (w.length : Int) from by omega] at this
        rw [this, List.getD_eq_getElem?_getD, show w.length - (1 + ((half2 x).fmod (w.length : Int)).toNat) = w.length - 1 - ((half2 x).fmod (w.length : Int)).toNat from by omega, List.getElem?_eq_getElem hk]
        rfl
      refine Ex.cons (Ex1.if_ (c := true) test (Ex.cons (Ex1.aug rfl (Ev.idxS (x := w.getD (w.length - 1 - ((half2 x).fmod (w.length : Int)).toNat) 0) (Ev.nm rfl) (Ev.bin (Ev.neg Ev.cInt) (Ev.bin (Ev.nm rfl) (Ev.callB nb (by decide +kernel) (by decide) (by decide) (by decide) rfl (EvL.cons (Ev.nm rfl) EvL.nil (fun _ => rfl)) (CallV.lenS (by omega)) (fun _ _ => rfl) (fun _ _ => rfl)) (BinV.modI (by omega))) BinV.subI) ix (by omega) (fun _ _ => rfl)) (InV.addS (by simp; omega)) (.inl rfl)) Ex.nil)) (Ex.fin ⟨rfl, trivial⟩)
    | false =>
      rw [hc] at test
      have e : stepW w x = w ++ [(97 + (half2 x).fmod 26).toNat] := by unfold stepW; rw [hc]; rfl
      have h1 := Int.fmod_nonneg_of_pos (half2 x) (show (0 : Int) < 26 by decide)
      have h2 := Int.fmod_lt_of_pos (half2 x) (show (0 : Int) < 26 by decide)
      rw [e]
      refine Ex.cons (Ex1.if_ (c := false) test (Ex.cons (Ex1.aug rfl (Ev.callB nb (by decide +kernel) (by decide) (by decide) (by decide) rfl (EvL.cons (Ev.bin Ev.cInt (Ev.bin (Ev.nm rfl) Ev.cInt (BinV.modI (by decide))) BinV.addI) EvL.nil (fun _ => rfl)) (CallV.chr (by omega) (by omega)) (fun _ _ => rfl) (fun _ _ => rfl)) (InV.addS (by simp; omega)) (.inl rfl)) Ex.nil)) (Ex.fin ⟨rfl, trivial⟩)
theorem fn_word (nb : NoB G) (hm : dWord ∈ recsOf G.p) (scr : List Int) (hl : scr.length ≤ 1000) : Fn G (n + 1) "_law_word" [.list (its scr)] (.str (wordF scr)) := by
  refine Fn.intro (d := dWord) (ns := ["script"]) hm (by rfl) ?_ (by decide) (by decide +kernel) (by decide +kernel) rfl rfl rfl ?_
  · intro pm code doc vs hv
    (apply len1 hv; exact fun _ => rfl)
  · have e6 : slc (its scr) none (some ((6 : Nat) : Int)) = its (scr.take 6) := by rw [slcG_to, its_take]
    have hs6 : (scr.take 6).length ≤ 6 := by rw [List.length_take]; omega
    have hnl := numsW_len scr
    have hwl : (wordGo scr).length = 6 := by unfold wordGo; rw [foldW_len, hnl]; rfl
    have sl : ∀ {σ : Loc} {p q r t : Pos}, σ.lookup ("script" : Str) = some (.val (.list (its scr))) → Ev G n dWord.scope σ (.Subscript (.Name "script" p) (.Slice none (some (.Constant (.int 6) 0 q)) none r) t) (.list (its (scr.take 6))) := fun {σ p q r t} h =>
      Ev.to (Ev.slcL (Ev.nm h) EvP.no (EvP.at (i := ((6 : Nat) : Int)) Ev.cInt) (by rw [its_len]; omega)) (congrArg PV.list e6)
    have en : its (scr.take 6) ++ its (([1, 3, 2, 6, 4, 2] : List Int).drop (scr.take 6).length) = its (numsW scr) := by rw [← its_app]; rfl
    have hlist : Ev G n dWord.scope [("word", .val (.str [])), ("script", .val (.list (its scr)))] (match stAt dWord.body 1 with | .For _ e _ _ _ => e | _ => default) (.list (its (numsW scr))) := by
      rw [← en]
      exact Ev.bin (Ev.callT nb (by decide +kernel) (by decide) (by decide) (by decide) rfl (EvL.cons (sl rfl) EvL.nil (fun _ => rfl)) (CallV.listL (by rw [its_len]; omega)) (fun _ _ => rfl) (fun _ _ => rfl))
        (Ev.to (Ev.slcL (Ev.mkL (xs := its [1, 3, 2, 6, 4, 2]) (EvL.cons Ev.cInt (EvL.cons Ev.cInt (EvL.cons Ev.cInt (EvL.cons Ev.cInt (EvL.cons Ev.cInt (EvL.cons Ev.cInt EvL.nil (fun _ => rfl)) (fun _ => rfl)) (fun _ => rfl)) (fun _ => rfl)) (fun _ => rfl)) (fun _ => rfl)) (by simp [its])) (EvP.at (i := (((scr.take 6).length : Nat) : Int)) (Ev.to (Ev.callB nb (by decide +kernel) (by decide) (by decide) (by decide) rfl (EvL.cons (sl rfl) EvL.nil (fun _ => rfl)) (CallV.lenL (by rw [its_len]; omega)) (fun _ _ => rfl) (fun _ _ => rfl)) (by rw [its_len]))) EvP.no (by simp [its]))
          (congrArg PV.list (by rw [slcG_from]; rw [its, its, List.map_drop]))) (BinV.addL (by rw [its_len, its_len, List.length_drop]; simp; omega))
    refine Ex.cons (Ex1.assign (Ev.cStr (c := []) rfl) (.inl rfl) (fun _ => rfl)) ?_
    refine Ex.cons (Ex1.for_ (EvI.list hlist) (ExF.weak (word_for nb (numsW scr) [] (by rw [hnl]; simp)) (subL.out ⟨rfl, trivial⟩)) (fun _ _ => rfl)) ?_
    have hlast : (wordGo scr).getLast? = some ((wordGo scr).getLastD 0) := by
      rw [List.getLastD_eq_getLast?]
      cases h : (wordGo scr).getLast? with
      | none => rw [List.getLast?_eq_none_iff] at h; rw [h] at hwl; cases hwl
      | some x => rfl
    exact Ex.stop (Ex1.ret (Ev.bin (Ev.nm (pv := .str (wordGo scr)) rfl) (Ev.idxS (x := (wordGo scr).getLastD 0) (Ev.nm (pv := .str (wordGo scr)) rfl) (Ev.neg Ev.cInt) (by rw [getI_last]; exact hlast) (by omega) (fun _ _ => rfl)) (BinV.addS (by simp; omega)))) rfl
end
end Mine
namespace Mine

def cutGo2 (w : Tx) : List Nat → Nat → Nat
  | [], cut => cut
  | k :: r, cut => cutGo2 w r (if collI (w.drop k) (w.drop cut) == -1 then k else cut)
def cutAt (w : Tx) : Nat := cutGo2 w (List.range' 2 (w.length - 2)) 1
def textF : Nat → Tx → Tx
  | 0, w => w
  | k + 1, w => if w.length == 1 then w else [40] ++ textF k (w.take (cutAt w)) ++ textF k (w.drop (cutAt w)) ++ [41]
theorem cutGo2_bd (w : Tx) : ∀ (l : List Nat) (cut : Nat), (∀ k ∈ l, 1 ≤ k ∧ k < w.length) → 1 ≤ cut ∧ cut < w.length → 1 ≤ cutGo2 w l cut ∧ cutGo2 w l cut < w.length
  | [], cut, h, hc => hc
  | k :: r, cut, h, hc => by
    unfold cutGo2
    refine cutGo2_bd w r _ (fun x hx => h x (.tail _ hx)) ?_
    split
    · exact h k (.head _)
    · exact hc
theorem cutAt_bd (w : Tx) (h : 2 ≤ w.length) : 1 ≤ cutAt w ∧ cutAt w < w.length := by
  unfold cutAt
  exact cutGo2_bd w _ _ (fun k hk => by have := mem_upto hk; omega) (by omega)
theorem textF_len : ∀ (k : Nat) (w : Tx), 1 ≤ w.length → w.length ≤ k + 1 → (textF k w).length = 3 * w.length - 2
  | 0, w, h1, h2 => by unfold textF; omega
  | k + 1, w, h1, h2 => by
    unfold textF
    split
    · rename_i h; have : w.length = 1 := by simpa using h
      omega
    · rename_i h
      have h' : w.length ≠ 1 := by simpa using h
      have hc := cutAt_bd w (by omega)
      have e1 := textF_len k (w.take (cutAt w)) (by rw [List.length_take]; omega) (by rw [List.length_take]; omega)
      have e2 := textF_len k (w.drop (cutAt w)) (by rw [List.length_drop]; omega) (by rw [List.length_drop]; omega)
      rw [List.length_take] at e1
      rw [List.length_drop] at e2
      simp only [List.length_append, List.length_cons, List.length_nil]
      omega

section
variable {G : Gc} {n : Nat} {σ : Loc}
set_option maxHeartbeats 1000000

theorem text_for (D : Defs G) (w : Tx) (hl : w.length ≤ 100) : ∀ (l : List Nat) (cut : Nat), (∀ k ∈ l, 1 ≤ k ∧ k < w.length) → 1 ≤ cut ∧ cut < w.length →
    ExF G (n + 1) dText.scope [("cut", .val (.int cut)), ("word", .val (.str w))] (forTgt (stAt dText.body 2)) (nats l) true (forBody (stAt dText.body 2)) [] (.next [("cut", .val (.int (cutGo2 w l cut))), ("word", .val (.str w))]) := by
  intro l
  induction l with
  | nil => intro cut h hc; exact ExF.nil (Ex.fin ⟨rfl, rfl, trivial⟩)
  | cons k l ih =>
    intro cut h hc
    have hk := h k (.head _)
    have test : EvT G (n + 1) dText.scope [("k", .val (.int k)), ("cut", .val (.int cut)), ("word", .val (.str w))] (match stAt (forBody (stAt dText.body 2)) 0 with | .If t _ _ _ => t | _ => default) (collI (w.drop k) (w.drop cut) == -1) :=
      EvT.cmp (a := .int (collI (w.drop k) (w.drop cut))) (Ev.callF (by decide) rfl (EvL.cons (Ev.to (Ev.slcS (Ev.nm rfl) (EvP.at (Ev.nm rfl)) EvP.no (by omega)) (congrArg PV.str (slc_from w k (by omega)))) (EvL.cons (Ev.to (Ev.slcS (Ev.nm rfl) (EvP.at (Ev.nm rfl)) EvP.no (by omega)) (congrArg PV.str (slc_from w cut (by omega)))) EvL.nil (fun _ => rfl)) (fun _ => rfl)) D.coll (by rfl) (fn_coll D.coll _ _) (fun _ _ => rfl)) (Ev.neg Ev.cInt) CmpV.eqI rfl
    cases hq : collI (w.drop k) (w.drop cut) == -1 with
    | true =>
      rw [hq] at test
      have e : cutGo2 w (k :: l) cut = cutGo2 w l k := by simp only [cutGo2, hq, if_true]
      rw [e]
      exact ExF.next (τ' := [("cut", .val (.int k)), ("word", .val (.str w))]) (AsV.name (.inl rfl)) (Ex.cons (Ex1.if_ (c := true) test (Ex.cons (Ex1.assign (Ev.nm rfl) (.inl rfl) (fun _ => rfl)) Ex.nil)) (Ex.fin ⟨rfl, rfl, trivial⟩)) (ih k (fun x hx => h x (.tail _ hx)) hk)
    | false =>
      rw [hq] at test
      have e : cutGo2 w (k :: l) cut = cutGo2 w l cut := by simp only [cutGo2, hq]; rfl
      rw [e]
      exact ExF.next (τ' := [("cut", .val (.int cut)), ("word", .val (.str w))]) (AsV.name (.inl rfl)) (Ex.cons (Ex1.if_ (c := false) test Ex.nil) (Ex.fin ⟨rfl, rfl, trivial⟩)) (ih cut (fun x hx => h x (.tail _ hx)) hc)
theorem fn_text (D : Defs G) (hm : dText ∈ recsOf G.p) (n : Nat) : ∀ (k : Nat) (w : Tx), 1 ≤ w.length → w.length ≤ k + 1 → k ≤ 50 → Fn G (n + k + 2) "_law_text" [.str w] (.str (textF k w)) := by
  have base : ∀ (m : Nat) (w : Tx), w.length = 1 → Fn G (m + 2) "_law_text" [.str w] (.str w) := fun m w hw => by
    refine Fn.intro (d := dText) (ns := ["word"]) hm (by rfl) ?_ (by decide) (by decide +kernel) (by decide +kernel) rfl rfl rfl ?_
    · intro pm code doc vs hv
      (apply len1 hv; exact fun _ => rfl)
    · exact Ex.stop (Ex1.if_ (c := true) (EvT.to (EvT.cmp (Ev.callB D.T.nb (by decide +kernel) (by decide) (by decide) (by decide) rfl (EvL.cons (Ev.nm rfl) EvL.nil (fun _ => rfl)) (CallV.lenS (by omega)) (fun _ _ => rfl) (fun _ _ => rfl)) Ev.cInt CmpV.eqI rfl) (by rw [hw]; rfl)) (Ex.stop (Ex1.ret (Ev.nm rfl)) rfl)) rfl
  intro k
  induction k with
  | zero => intro w h1 h2 hk; exact base n w (by omega)
  | succ k ih =>
    intro w h1 h2 hk
    by_cases hw : w.length = 1
    · have : textF (k + 1) w = w := by unfold textF; rw [hw]; rfl
      rw [this]
      exact base (n + (k + 1)) w hw
    · have hc := cutAt_bd w (by omega)
      have l1 := textF_len k (w.take (cutAt w)) (by rw [List.length_take]; omega) (by rw [List.length_take]; omega)
      have l2 := textF_len k (w.drop (cutAt w)) (by rw [List.length_drop]; omega) (by rw [List.length_drop]; omega)
      have i1 := ih (w.take (cutAt w)) (by rw [List.length_take]; omega) (by rw [List.length_take]; omega) (by omega)
      have i2 := ih (w.drop (cutAt w)) (by rw [List.length_drop]; omega) (by rw [List.length_drop]; omega) (by omega)
      have key := text_for (n := n + k + 1) D w (by omega) (List.range' 2 (w.length - 2)) 1 (fun k hk => by have := mem_upto hk; omega) (by omega)
      have e : textF (k + 1) w = [40] ++ textF k (w.take (cutAt w)) ++ textF k (w.drop (cutAt w)) ++ [41] := by
        have hb : (w.length == 1) = false := by simpa using hw
        simp only [textF, hb]; rfl
      rw [List.length_take] at l1
      rw [List.length_drop] at l2
      have ec : cutGo2 w (List.range' 2 (w.length - 2)) 1 = cutAt w := rfl
      rw [ec] at key
      rw [e]
      generalize cutAt w = c at *
      generalize textF k (w.take c) = ta at *
      generalize textF k (w.drop c) = tb at *
      refine Fn.intro (d := dText) (ns := ["word"]) hm (by rfl) ?_ (by decide) (by decide +kernel) (by decide +kernel) rfl rfl rfl ?_
      · intro pm code doc vs hv
        (apply len1 hv; exact fun _ => rfl)
      · refine Ex.cons (Ex1.if_ (c := false) (EvT.to (EvT.cmp (Ev.callB D.T.nb (by decide +kernel) (by decide) (by decide) (by decide) rfl (EvL.cons (Ev.nm rfl) EvL.nil (fun _ => rfl)) (CallV.lenS (by omega)) (fun _ _ => rfl) (fun _ _ => rfl)) Ev.cInt CmpV.eqI rfl) (by rw [beq_eq_false_iff_ne]; omega)) Ex.nil) ?_
        refine Ex.cons (Ex1.assign Ev.cInt (.inl rfl) (fun _ => rfl)) ?_
        refine Ex.cons (Ex1.for_ (EvI.uptoN (lo := 2) (m := w.length - 2) (Ev.callT D.T.nb (by decide +kernel) (by decide) (by decide) (by decide) rfl (EvL.cons Ev.cInt (EvL.cons (Ev.callB D.T.nb (by decide +kernel) (by decide) (by decide) (by decide) rfl (EvL.cons (Ev.nm rfl) EvL.nil (fun _ => rfl)) (CallV.lenS (by omega)) (fun _ _ => rfl) (fun _ _ => rfl)) EvL.nil (fun _ => rfl)) (fun _ => rfl)) CallV.range2 (fun _ _ => rfl) (fun _ _ => rfl)) (by omega) (by omega) (by omega) (by omega)) (ExF.weak key (subL.out ⟨rfl, rfl, trivial⟩)) (fun _ _ => rfl)) ?_
        refine Ex.stop (Ex1.ret (Ev.bin (Ev.bin (Ev.bin (Ev.cStr (c := [40]) rfl) (Ev.callF (by decide) rfl (EvL.cons (Ev.to (Ev.slcS (Ev.nm rfl) EvP.no (EvP.at (Ev.nm rfl)) (by omega)) (congrArg PV.str (slc_to w c (by omega)))) EvL.nil (fun _ => rfl)) hm rfl i1 (fun _ _ => rfl)) (BinV.addS ?_)) (Ev.callF (by decide) rfl (EvL.cons (Ev.to (Ev.slcS (Ev.nm rfl) (EvP.at (Ev.nm rfl)) EvP.no (by omega)) (congrArg PV.str (slc_from w c (by omega)))) EvL.nil (fun _ => rfl)) hm rfl i2 (fun _ _ => rfl)) (BinV.addS ?_)) (Ev.cStr (c := [41]) rfl) (BinV.addS ?_))) rfl
        all_goals (simp only [List.length_append, List.length_cons, List.length_nil]; omega)
end
end Mine
namespace Mine

def notParA (x : Nat) : Bool := !subIn [x] [40, 41, 65]
def frontGo (text : Tx) : Nat → Option Nat
  | 0 => none
  | f + 1 => if text[f]? == some 40 then frontGo text f else some (f + 1)
def behC (text : Tx) (f k b : Nat) : Bool := (f == k) || (text[b - 1]? == some 41 && checkP (slcN text f b))
def behGo (text : Tx) (f k : Nat) : Nat → List Nat → Nat
  | b, [] => b
  | b, b' :: r => if behC text f k b then b else behGo text f k b' r
def toldK (text : Tx) (f k : Nat) : Nat := ((slcN text f (behGo text f k (k + 1) (List.range' (k + 2) (text.length - (k + 2))))).filter notPar).length
def toldGo (text : Tx) : List Nat → Option (List Nat)
  | [] => some []
  | k :: r => match frontGo text k with
    | none => none
    | some f => match toldGo text r with
      | none => none
      | some l => some (toldK text f k :: l)
def toldPl (text : Tx) : List Nat := (List.range' 0 text.length).filter fun k => (match text[k]? with | some x => notParA x | none => false)
def toldF (text : Tx) : Option (List Nat) := if (toldPl text).all (fun k => k + 1 < text.length) then toldGo text (toldPl text) else none
theorem behGo_bd (text : Tx) (f k B : Nat) : ∀ (r : List Nat) (b : Nat), b < B → (∀ x ∈ r, x < B) → behGo text f k b r < B
  | [], b, h, hr => h
  | b' :: r, b, h, hr => by
    unfold behGo
    split
    · exact h
    · exact behGo_bd text f k B r b' (hr b' (.head _)) fun x hx => hr x (.tail _ hx)
theorem frontGo_le (text : Tx) : ∀ (f g : Nat), frontGo text f = some g → g ≤ f
  | 0, g, h => by cases h
  | f + 1, g, h => by
    unfold frontGo at h
    split at h
    · have := frontGo_le text f g h; omega
    · cases h; exact Nat.le_refl _

section
variable {G : Gc} {n : Nat} {σ : Loc}
set_option maxHeartbeats 1000000

abbrev tOb : List Stmt := forBody (stAt dTold.body 1)
abbrev tSt (text : Tx) (k f : Nat) (acc : List PV) : Loc := [("front", .val (.int f)), ("k", .val (.int k)), ("text", .val (.str text)), ("told", .own acc)]
theorem told_while (text : Tx) (hl : text.length ≤ 800) (k : Nat) (acc : List PV) : ∀ (f g : Nat), f ≤ text.length → frontGo text f = some g →
    ExW G n dTold.scope [("front", .val (.int f)), ("k", .val (.int k)), ("text", .val (.str text)), ("told", .own acc)] (whTest (stAt tOb 1)) (forBody (stAt tOb 1)) [] (.next (tSt text k g acc)) := by
  intro f
  induction f with
  | zero => intro g hf h; cases h
  | succ f ih =>
    intro g hf h
    have hx : text[f]? = some text[f] := List.getElem?_eq_getElem (by omega)
    have test : EvT G n dTold.scope [("front", .val (.int ((f + 1 : Nat) : Int))), ("k", .val (.int k)), ("text", .val (.str text)), ("told", .own acc)] (whTest (stAt tOb 1)) (text[f]? == some 40) :=
      EvT.to (EvT.cmp (Ev.idxS (x := text[f]) (Ev.nm rfl) (Ev.bin (Ev.nm rfl) Ev.cInt BinV.subI) (by rw [show ((f + 1 : Nat) : Int) - 1 = (f : Int) from by omega, getI_nat]; exact hx) (by omega) (fun _ _ => rfl)) (Ev.cStr (c := [40]) rfl) CmpV.eqS rfl) (get_dec (by omega))
    unfold frontGo at h
    cases hq : text[f]? == some 40 with
    | true =>
      rw [hq] at test h
      rw [if_pos rfl] at h
      refine ExW.next (τ := [("front", .val (.int f)), ("k", .val (.int k)), ("text", .val (.str text)), ("told", .own acc)]) test (Ex.cons (Ex1.aug rfl Ev.cInt InV.subI (.inl rfl)) (Ex.fin ⟨?_, rfl, rfl, rfl, trivial⟩)) (ih g (by omega) h)
      show some (Slot.val (PV.int (((f + 1 : Nat) : Int) - 1))) = _
      rw [show ((f + 1 : Nat) : Int) - 1 = (f : Int) from by omega]
    | false =>
      rw [hq] at test h
      rw [if_neg Bool.false_ne_true] at h
      cases h
      exact ExW.stop test (Ex.fin ⟨rfl, rfl, rfl, rfl, trivial⟩)
theorem told_beh (D : Defs G) (hn : n ≤ 800) (text : Tx) (hl : text.length ≤ 800) (k f : Nat) (hf : f ≤ text.length) (acc : List PV) : ∀ (r : List Nat) (b : Nat), (1 ≤ b ∧ b < text.length) → (∀ x ∈ r, 1 ≤ x ∧ x < text.length) →
    ExF G (n + 42) dTold.scope [("front", .val (.int f)), ("k", .val (.int k)), ("text", .val (.str text)), ("told", .own acc)] (forTgt (stAt tOb 2)) (nats (b :: r)) true (forBody (stAt tOb 2)) []
      (.next [("behind", .val (.int (behGo text f k b r))), ("front", .val (.int f)), ("text", .val (.str text)), ("told", .own acc)]) := by
  have test : ∀ b, (1 ≤ b ∧ b < text.length) → EvT G (n + 42) dTold.scope [("behind", .val (.int b)), ("front", .val (.int f)), ("k", .val (.int k)), ("text", .val (.str text)), ("told", .own acc)] (match stAt (forBody (stAt tOb 2)) 0 with | .If t _ _ _ => t | _ => default) (behC text f k b) := fun b hb => by
    have hlen : (slcN text f b).length ≤ 800 := by unfold slcN; rw [List.length_take, List.length_drop]; omega
    refine EvT.to (EvT.bools (EvA.or (a := f == k) (EvT.to (EvT.cmp (Ev.nm rfl) (Ev.nm rfl) CmpV.eqI rfl) (by rw [Bool.eq_iff_iff]; simp; omega)) (fun _ => EvA.or (a := (text[b - 1]? == some 41) && checkP (slcN text f b)) (b := false)
      (EvT.to (EvT.bools (EvA.and (a := text[b - 1]? == some 41) (EvT.to (EvT.cmp (Ev.idxS (x := text[b - 1]) (Ev.nm rfl) (Ev.bin (Ev.nm rfl) Ev.cInt BinV.subI) (by rw [show (b : Int) - 1 = ((b - 1 : Nat) : Int) from by omega, getI_nat]; exact List.getElem?_eq_getElem (by omega)) (by omega) (fun _ _ => rfl)) (Ev.cStr (c := [41]) rfl) CmpV.eqS rfl) (get_dec (by omega)))
        (fun _ => EvA.and (a := checkP (slcN text f b)) (b := true) (EvT.to (EvT.cmp (a := .bool (checkP (slcN text f b))) (b := .bool true) (Ev.callF (by decide) rfl (EvL.cons (Ev.to (Ev.slcS (Ev.nm rfl) (EvP.at (Ev.nm rfl)) (EvP.at (Ev.nm rfl)) (by omega)) (congrArg PV.str (slc_nat text f b hf (by omega)))) EvL.nil (fun _ => rfl)) D.check (by rfl)
          (fn_check (n := n + 40) D.T (by omega) (by omega) D.check D.strip D.iter _ (by omega)) (fun _ _ => rfl)) Ev.cBool (CmpV.is rfl) rfl) (by cases checkP (slcN text f b) <;> rfl)) (fun _ => EvA.and0)))) (by simp)) (fun _ => EvA.or0)))) ?_
    unfold behC; simp
  intro r
  induction r with
  | nil =>
    intro b hb hr
    have t := test b hb
    cases hq : behC text f k b with
    | true =>
      rw [hq] at t
      exact ExF.brk (AsV.name (.inl rfl)) (Ex.stop (Ex1.if_ (c := true) t (Ex.stop (Ex1.brkTo ⟨rfl, rfl, rfl, rfl, trivial⟩) rfl)) rfl)
    | false =>
      rw [hq] at t
      exact ExF.next (τ' := [("behind", .val (.int b)), ("front", .val (.int f)), ("text", .val (.str text)), ("told", .own acc)]) (AsV.name (.inl rfl)) (Ex.cons (Ex1.if_ (c := false) t Ex.nil) (Ex.fin ⟨rfl, rfl, rfl, rfl, trivial⟩)) (ExF.nil (Ex.fin ⟨rfl, rfl, rfl, rfl, trivial⟩))
  | cons b' r ih =>
    intro b hb hr
    have t := test b hb
    cases hq : behC text f k b with
    | true =>
      rw [hq] at t
      have e : behGo text f k b (b' :: r) = b := by unfold behGo; rw [hq]; rfl
      rw [e]
      exact ExF.brk (AsV.name (.inl rfl)) (Ex.stop (Ex1.if_ (c := true) t (Ex.stop (Ex1.brkTo ⟨rfl, rfl, rfl, rfl, trivial⟩) rfl)) rfl)
    | false =>
      rw [hq] at t
      have e : behGo text f k b (b' :: r) = behGo text f k b' r := by
        show (if behC text f k b = true then b else behGo text f k b' r) = _
        rw [hq]; rfl
      rw [e]
      exact ExF.next (τ' := [("front", .val (.int f)), ("k", .val (.int k)), ("text", .val (.str text)), ("told", .own acc)]) (AsV.name (.inl rfl)) (Ex.cons (Ex1.if_ (c := false) t Ex.nil) (Ex.fin ⟨rfl, rfl, rfl, rfl, trivial⟩)) (ih b' (hr b' (.head _)) (fun x hx => hr x (.tail _ hx)))
theorem nats_snoc (l : List Nat) (a : Nat) : nats (l ++ [a]) = nats l ++ [.int a] := by simp [nats]
theorem told_for (D : Defs G) (hn : n ≤ 800) (text : Tx) (hl : text.length ≤ 800) : ∀ (ks : List Nat) (acc res : List Nat), (∀ k ∈ ks, k + 1 < text.length) → toldGo text ks = some res → acc.length + ks.length ≤ 900 →
    ExF G (n + 42) dTold.scope [("text", .val (.str text)), ("told", .own (nats acc))] (forTgt (stAt dTold.body 1)) (nats ks) true (forBody (stAt dTold.body 1)) [] (.next [("told", .own (nats (acc ++ res)))]) := by
  intro ks
  induction ks with
  | nil =>
    intro acc res hk h hlen
    cases h
    rw [List.append_nil]
    exact ExF.nil (Ex.fin ⟨rfl, trivial⟩)
  | cons k ks ih =>
    intro acc res hk h hlen
    simp only [List.length_cons] at hlen
    have hk1 := hk k (.head _)
    unfold toldGo at h
    cases hfr : frontGo text k with
    | none => rw [hfr] at h; cases h
    | some f =>
      rw [hfr] at h
      cases hrest : toldGo text ks with
      | none => rw [hrest] at h; cases h
      | some l =>
        rw [hrest] at h
        cases h
        have hfk := frontGo_le text k f hfr
        have nxt := ih (acc ++ [toldK text f k]) l (fun x hx => hk x (.tail _ hx)) hrest (by simp; omega)
        rw [List.append_assoc, List.singleton_append] at nxt
        have er : List.range' (k + 1) (text.length - (k + 1)) = (k + 1) :: List.range' (k + 2) (text.length - (k + 2)) := by
          rw [show text.length - (k + 1) = (text.length - (k + 2)) + 1 from by omega, List.range'_succ]
        have hbd := behGo_bd text f k text.length (List.range' (k + 2) (text.length - (k + 2))) (k + 1) hk1 (fun x hx => by have := mem_upto hx; omega)
        have key := told_beh (n := n) D hn text hl k f (by omega) (nats acc) (List.range' (k + 2) (text.length - (k + 2))) (k + 1) (by omega) (fun x hx => by have := mem_upto hx; omega)
        rw [← er] at key
        have et : toldK text f k = ((slcN text f (behGo text f k (k + 1) (List.range' (k + 2) (text.length - (k + 2))))).filter notPar).length := rfl
        rw [et] at nxt ⊢
        generalize behGo text f k (k + 1) (List.range' (k + 2) (text.length - (k + 2))) = b at *
        have hlen2 : (slcN text f b).length ≤ 800 := by unfold slcN; rw [List.length_take, List.length_drop]; omega
        have hfl := List.length_filter_le notPar (slcN text f b)
        refine ExF.next (τ' := [("text", .val (.str text)), ("told", .own (nats (acc ++ [((slcN text f b).filter notPar).length])))]) (AsV.name (.inl rfl)) ?_ nxt
        refine Ex.cons (Ex1.assign (Ev.nm rfl) (.inl rfl) (fun _ => rfl)) ?_
        refine Ex.cons (Ex1.while_ (ExW.weak (told_while text hl k (nats acc) k f (by omega) hfr) ⟨rfl, rfl, rfl, rfl, trivial⟩)) ?_
        refine Ex.cons (Ex1.for_ (EvI.uptoN (lo := k + 1) (m := text.length - (k + 1)) (Ev.callT D.T.nb (by decide +kernel) (by decide) (by decide) (by decide) rfl (EvL.cons (Ev.bin (Ev.nm rfl) Ev.cInt BinV.addI) (EvL.cons (Ev.callB D.T.nb (by decide +kernel) (by decide) (by decide) (by decide) rfl (EvL.cons (Ev.nm rfl) EvL.nil (fun _ => rfl)) (CallV.lenS (by omega)) (fun _ _ => rfl) (fun _ _ => rfl)) EvL.nil (fun _ => rfl)) (fun _ => rfl)) CallV.range2 (fun _ _ => rfl) (fun _ _ => rfl)) (by omega) (by omega) (by omega) (by omega)) (ExF.weak key (subL.out ⟨rfl, rfl, rfl, rfl, trivial⟩)) (fun _ _ => rfl)) ?_
        refine Ex.cons (Ex1.append (xs := nats acc) rfl (pv := .int ((slcN text f b).filter notPar).length) ?_ (by decide) (by rw [nats_len]; omega) (fun _ => rfl) (fun _ _ => rfl) (fun _ => rfl) rfl (fun _ => rfl)) (Ex.fin ⟨rfl, by rw [nats_snoc]; rfl, trivial⟩)
        refine Ev.to (Ev.callB D.T.nb (by decide +kernel) (by decide) (by decide) (by decide) rfl (EvL.cons (Ev.compr [] (EvI.str (Ev.to (Ev.slcS (Ev.nm rfl) (EvP.at (Ev.nm rfl)) (EvP.at (Ev.nm rfl)) (by omega)) (congrArg PV.str (slc_nat text f b (by omega) (by omega))))) (by simp [signs]; omega) rfl trivial rfl (fun _ _ => rfl)
          (CompOk.map (fun a => .str [a]) notPar (fun a => .str [a]) (slcN text f b) fun a ha => ⟨_, AsV.name (.inl rfl), Tests.cond (EvT.cmp (Ev.nm rfl) (Ev.cStr (c := [40, 41]) rfl) CmpV.notInS rfl) rfl, fun _ => Ev.nm rfl, trivial⟩)) EvL.nil (fun _ => rfl)) (CallV.lenL (by rw [List.length_map]; omega)) (fun _ _ => rfl) (fun _ _ => rfl)) ?_
        rw [List.length_map]
theorem fn_told (D : Defs G) (hn : n ≤ 800) (hm : dTold ∈ recsOf G.p) (text : Tx) (hl : text.length ≤ 800) (res : List Nat) (h : toldF text = some res) : Fn G (n + 43) "_law_told" [.str text] (.list (nats res)) := by
  unfold toldF at h
  split at h
  · rename_i hall
    have hall' : ∀ k ∈ toldPl text, k + 1 < text.length := fun k hk => by simpa using List.all_eq_true.mp hall k hk
    have hpl : (toldPl text).length ≤ text.length := by
      unfold toldPl
      refine Nat.le_trans (List.length_filter_le _ _) ?_
      rw [List.length_range']; exact Nat.le_refl _
    refine Fn.intro (d := dTold) (ns := ["text"]) hm (by rfl) ?_ (by decide) (by decide +kernel) (by decide +kernel) rfl rfl rfl ?_
    · intro pm code doc vs hv
      (apply len1 hv; exact fun _ => rfl)
    · refine Ex.cons (Ex1.assignOwn (EvN.disp (xs := nats []) EvL.nil (by simp [nats])) rfl (fun _ => rfl)) ?_
      refine Ex.cons (Ex1.for_ (EvI.list (Ev.compr [("text", .val (.str text))] (EvI.uptoN (lo := 0) (m := text.length) (Ev.callT D.T.nb (by decide +kernel) (by decide) (by decide) (by decide) rfl (EvL.cons (Ev.callB D.T.nb (by decide +kernel) (by decide) (by decide) (by decide) rfl (EvL.cons (Ev.nm rfl) EvL.nil (fun _ => rfl)) (CallV.lenS (by omega)) (fun _ _ => rfl) (fun _ _ => rfl)) EvL.nil (fun _ => rfl)) CallV.range1 (fun _ _ => rfl) (fun _ _ => rfl)) (by omega) (by omega) (by omega) (by omega))
          (by simp [nats]; omega) rfl ⟨rfl, trivial⟩ rfl (fun _ _ => rfl)
          (CompOk.map (fun (k : Nat) => .int k) (fun k => (match text[k]? with | some x => notParA x | none => false)) (fun (k : Nat) => .int k) (List.range' 0 text.length) fun k hk => by
            have hk' := mem_upto hk
            have hkl : k < text.length := by omega
            have hx : text[k]? = some text[k] := List.getElem?_eq_getElem hkl
            exact ⟨_, AsV.name (.inl rfl), Tests.cond (EvT.cmp (Ev.idxS (x := text[k]) (Ev.nm rfl) (Ev.nm rfl) (by rw [getI_nat]; exact hx) (by omega) (fun _ _ => rfl)) (Ev.cStr (c := [40, 41, 65]) rfl) CmpV.notInS rfl) (by rw [hx]; rfl), fun _ => Ev.nm rfl, ⟨rfl, trivial⟩⟩)))
        (ExF.weak (told_for D hn text hl (toldPl text) [] res hall' h (by simp; omega)) (subL.out ⟨rfl, rfl, trivial⟩)) (fun _ _ => rfl)) ?_
      exact Ex.freeze (x := "told") (xs := nats ([] ++ res)) rfl (Ex.stop (Ex1.ret (Ev.nm rfl)) rfl)
  · cases h
end
end Mine
namespace Mine

def growE (w : Tx) (b st : Nat) : Nat → Nat → Nat
  | 0, e => e
  | f + 1, e => if decide (e < w.length) && ellM (dots ++ slcN w b (e + 1 - st)) (slcN w b (e + 1)) then growE w b st f (e + 1) else e
def lessL (w : Tx) (b e st : Nat) : List Nat := (List.range' 1 (st - 1)).filter fun s => ellM (slcN w (b + s) e ++ dots) (slcN w b e)
def endOf (w : Tx) (b st : Nat) : Nat := growE w b st (w.length - (b + 2 * st)) (b + 2 * st)
def runsW (w : Tx) (st : Nat) : Nat → Nat → List (Nat × Nat × Nat) → List (Nat × Nat × Nat)
  | 0, b, acc => acc
  | f + 1, b, acc => if b + 2 * st ≤ w.length then
      (if ellM (slcN w (b + st) (b + 2 * st) ++ dots) (slcN w b (b + 2 * st)) then
        runsW w st f (endOf w b st - st + 1) (if (lessL w b (endOf w b st) st).isEmpty then acc ++ [(b, endOf w b st, st)] else acc)
      else runsW w st f (b + 1) acc) else acc
def runsGo (w : Tx) : List Nat → List (Nat × Nat × Nat) → List (Nat × Nat × Nat)
  | [], acc => acc
  | st :: r, acc => runsGo w r (runsW w st w.length 0 acc)
def runsF (w : Tx) : List (Nat × Nat × Nat) := runsGo w (List.range' 1 (w.length / 2)) []
def runPV (r : Nat × Nat × Nat) : PV := .tup [.int r.1, .int r.2.1, .int r.2.2]
def runsPV (l : List (Nat × Nat × Nat)) : List PV := l.map runPV
theorem runsPV_len (l : List (Nat × Nat × Nat)) : (runsPV l).length = l.length := by simp [runsPV]
theorem runsPV_snoc (l : List (Nat × Nat × Nat)) (b e st : Nat) : runsPV (l ++ [(b, e, st)]) = runsPV l ++ [.tup [.int b, .int e, .int st]] := by simp [runsPV, runPV]
theorem growE_bd (w : Tx) (b st : Nat) : ∀ (f e : Nat), e ≤ w.length → e ≤ growE w b st f e ∧ growE w b st f e ≤ w.length
  | 0, e, h => ⟨Nat.le_refl _, h⟩
  | f + 1, e, h => by
    unfold growE
    split
    · rename_i hc
      have h1 := of_decide_eq_true (Bool.and_eq_true_iff.mp hc).1
      have := growE_bd w b st f (e + 1) (by omega)
      exact ⟨by omega, this.2⟩
    · exact ⟨Nat.le_refl _, h⟩
theorem runsW_len (w : Tx) (st : Nat) : ∀ (f b : Nat) (acc : List (Nat × Nat × Nat)), (runsW w st f b acc).length ≤ acc.length + f
  | 0, b, acc => Nat.le_refl _
  | f + 1, b, acc => by
    unfold runsW
    split
    · split
      · refine Nat.le_trans (runsW_len w st f _ _) ?_
        split <;> simp <;> omega
      · have := runsW_len w st f (b + 1) acc; omega
    · omega
theorem slcN_len (w : Tx) (a b : Nat) : (slcN w a b).length ≤ w.length := by unfold slcN; rw [List.length_take, List.length_drop]; omega

section
variable {G : Gc} {n : Nat} {σ : Loc}
set_option maxHeartbeats 1000000

theorem pok_nats (l : List Nat) (k : Nat) : pok (k + 1) (.list (nats l)) = true := by
  simp only [pok, List.all_eq_true]
  intro x hx
  obtain ⟨c, hc, rfl⟩ := List.mem_map.mp hx
  cases k <;> rfl
theorem CmpV.isT {b : Bool} : CmpV G n .Is (.bool b) (.bool true) (.bool b) := by
  have := CmpV.is (G := G) (n := n) (a := .bool b) (b := .bool true) rfl
  rw [bool_is] at this
  cases b <;> exact this
abbrev rWb : List Stmt := forBody (stAt (forBody (stAt dRuns.body 1)) 1)
abbrev rIb : List Stmt := forBody (stAt rWb 1)
abbrev rSt (w : Tx) (e b st : Nat) (acc : List (Nat × Nat × Nat)) : Loc := [("end", .val (.int e)), ("begin", .val (.int b)), ("step", .val (.int st)), ("word", .val (.str w)), ("runs", .own (runsPV acc))]
/-- a stretch of the word -/
theorem ev_part {sc : Scope} {e f : Expr} {w : Tx} {a b : Nat} {x y : Int} {p q t : Pos} (hw : σ.lookup ("word" : Str) = some (.val (.str w))) (h1 : Ev G n sc σ e (.int x)) (h2 : Ev G n sc σ f (.int y)) (hx : x = (a : Int)) (hy : y = (b : Int)) (ha : a ≤ w.length) (hb : b ≤ w.length) (hl : w.length ≤ 1000) :
    Ev G n sc σ (.Subscript (.Name "word" p) (.Slice (some e) (some f) none q) t) (.str (slcN w a b)) := by
  subst hx hy
  exact Ev.to (Ev.slcS (Ev.nm hw) (EvP.at h1) (EvP.at h2) (by omega)) (congrArg PV.str (slc_nat w a b ha hb))
theorem runs_grow (D : Defs G) (w : Tx) (hl : w.length ≤ 100) (b st : Nat) (hst : 1 ≤ st) (acc : List (Nat × Nat × Nat)) : ∀ (f e : Nat), e + f = w.length → b + st ≤ e →
    ExW G (n + 1) dRuns.scope [("end", .val (.int e)), ("begin", .val (.int b)), ("step", .val (.int st)), ("word", .val (.str w)), ("runs", .own (runsPV acc))] (whTest (stAt rIb 0)) (forBody (stAt rIb 0)) [] (.next (rSt w (growE w b st f e) b st acc)) := by
  have test : ∀ e, b + st ≤ e → e ≤ w.length → EvT G (n + 1) dRuns.scope (rSt w e b st acc) (whTest (stAt rIb 0)) (decide (e < w.length) && ellM (dots ++ slcN w b (e + 1 - st)) (slcN w b (e + 1))) := fun e h1 h2 => by
    have l1 := slcN_len w b (e + 1 - st)
    have l2 := slcN_len w b (e + 1)
    refine EvT.to (EvT.bools (EvA.and (a := decide (e < w.length)) (EvT.to (EvT.cmp (Ev.nm rfl) (Ev.callB D.T.nb (by decide +kernel) (by decide) (by decide) (by decide) rfl (EvL.cons (Ev.nm rfl) EvL.nil (fun _ => rfl)) (CallV.lenS (by omega)) (fun _ _ => rfl) (fun _ _ => rfl)) CmpV.ltI rfl) (by rw [Bool.eq_iff_iff]; simp))
      (fun ht => EvA.and (a := ellM (dots ++ slcN w b (e + 1 - st)) (slcN w b (e + 1))) (b := true) ?_ (fun _ => EvA.and0)))) (by simp)
    have hlt := of_decide_eq_true ht
    exact EvT.cmp (a := .bool _) (b := .bool true) (Ev.callF (by decide) rfl (EvL.cons (Ev.bin (Ev.cStr (c := dots) rfl) (ev_part (a := b) (b := e + 1 - st) rfl (Ev.nm rfl) (Ev.bin (Ev.bin (Ev.nm rfl) Ev.cInt BinV.addI) (Ev.nm rfl) BinV.subI) rfl (by omega) (by omega) (by omega) (by omega)) (BinV.addS (by simp; omega)))
      (EvL.cons (ev_part (a := b) (b := e + 1) rfl (Ev.nm rfl) (Ev.bin (Ev.nm rfl) Ev.cInt BinV.addI) rfl (by omega) (by omega) (by omega) (by omega)) EvL.nil (fun _ => rfl)) (fun _ => rfl)) D.ell (by rfl) (fn_ell D.T D.ell _ _ (by simp; omega) (by omega)) (fun _ _ => rfl)) Ev.cBool CmpV.isT rfl
  intro f
  induction f with
  | zero =>
    intro e he hb
    have t := test e hb (by omega)
    rw [show (decide (e < w.length)) = false from decide_eq_false (by omega), Bool.false_and] at t
    exact ExW.stop t (Ex.fin ⟨rfl, rfl, rfl, rfl, rfl, trivial⟩)
  | succ f ih =>
    intro e he hb
    have t := test e hb (by omega)
    show ExW G (n + 1) dRuns.scope _ _ _ [] (.next (rSt w (if decide (e < w.length) && ellM (dots ++ slcN w b (e + 1 - st)) (slcN w b (e + 1)) then growE w b st f (e + 1) else e) b st acc))
    cases hq : (decide (e < w.length) && ellM (dots ++ slcN w b (e + 1 - st)) (slcN w b (e + 1))) with
    | true =>
      rw [hq] at t
      rw [if_pos rfl]
      exact ExW.next (τ := rSt w (e + 1) b st acc) t (Ex.cons (Ex1.aug rfl Ev.cInt InV.addI (.inr rfl)) (Ex.fin ⟨rfl, rfl, rfl, rfl, rfl, trivial⟩)) (ih (e + 1) (by omega) (by omega))
    | false =>
      rw [hq] at t
      rw [if_neg Bool.false_ne_true]
      exact ExW.stop t (Ex.fin ⟨rfl, rfl, rfl, rfl, rfl, trivial⟩)
theorem runs_while (D : Defs G) (w : Tx) (hl : w.length ≤ 100) (st : Nat) (hst : 1 ≤ st) (hst2 : st ≤ 100) : ∀ (f b : Nat) (acc : List (Nat × Nat × Nat)), w.length ≤ b + f → b ≤ 1000 → acc.length + f ≤ 100000 →
    ExW G (n + 1) dRuns.scope [("begin", .val (.int b)), ("step", .val (.int st)), ("word", .val (.str w)), ("runs", .own (runsPV acc))] (whTest (stAt (forBody (stAt dRuns.body 1)) 1)) rWb [] (.next [("word", .val (.str w)), ("runs", .own (runsPV (runsW w st f b acc)))]) := by
  have test : ∀ (b : Nat) acc, EvT G (n + 1) dRuns.scope [("begin", .val (.int b)), ("step", .val (.int st)), ("word", .val (.str w)), ("runs", .own (runsPV acc))] (whTest (stAt (forBody (stAt dRuns.body 1)) 1)) (decide (b + 2 * st ≤ w.length)) := fun b acc =>
    EvT.to (EvT.cmp (Ev.bin (Ev.nm rfl) (Ev.bin Ev.cInt (Ev.nm rfl) (BinV.mulI (IntMulOk.of_right (intBits_le_64 (by omega) (by omega))))) BinV.addI) (Ev.callB D.T.nb (by decide +kernel) (by decide) (by decide) (by decide) rfl (EvL.cons (Ev.nm rfl) EvL.nil (fun _ => rfl)) (CallV.lenS (by omega)) (fun _ _ => rfl) (fun _ _ => rfl)) CmpV.leI rfl) (by rw [Bool.eq_iff_iff]; simp; omega)
  intro f
  induction f with
  | zero =>
    intro b acc h1 h2 h3
    have t := test b acc
    rw [decide_eq_false (by omega)] at t
    exact ExW.stop t (Ex.fin ⟨rfl, rfl, trivial⟩)
  | succ f ih =>
    intro b acc h1 h2 h3
    have t := test b acc
    by_cases hc : b + 2 * st ≤ w.length
    · rw [decide_eq_true hc] at t
      have l1 := slcN_len w (b + st) (b + 2 * st)
      have l2 := slcN_len w b (b + 2 * st)
      have asg : Ex1 G (n + 1) dRuns.scope [("begin", .val (.int b)), ("step", .val (.int st)), ("word", .val (.str w)), ("runs", .own (runsPV acc))] (stAt rWb 0) (.next (rSt w (b + 2 * st) b st acc)) := by
        have h := Ex1.assign (G := G) (n := n + 1) (σ := [("begin", .val (.int b)), ("step", .val (.int st)), ("word", .val (.str w)), ("runs", .own (runsPV acc))]) (sc := dRuns.scope) (x := "end") (pv := .int ((b + 2 * st : Nat) : Int)) (e := (match stAt rWb 0 with | .Assign _ e _ => e | _ => default)) (p := (match stAt rWb 0 with | .Assign [.Name _ p] _ _ => p | _ => default)) (pos := (match stAt rWb 0 with | .Assign _ _ p => p | _ => default))
          (Ev.to (Ev.bin (Ev.nm rfl) (Ev.bin Ev.cInt (Ev.nm rfl) (BinV.mulI (IntMulOk.of_right (intBits_le_64 (by omega) (by omega))))) BinV.addI) (congrArg PV.int (by omega))) (.inr rfl) (fun _ => rfl)
        exact h
      have tst : EvT G (n + 1) dRuns.scope (rSt w (b + 2 * st) b st acc) (match stAt rWb 1 with | .If t _ _ _ => t | _ => default) (ellM (slcN w (b + st) (b + 2 * st) ++ dots) (slcN w b (b + 2 * st))) :=
        EvT.cmp (a := .bool _) (b := .bool true) (Ev.callF (by decide) rfl (EvL.cons (Ev.bin (ev_part (a := b + st) (b := b + 2 * st) rfl (Ev.bin (Ev.nm rfl) (Ev.nm rfl) BinV.addI) (Ev.nm rfl) (by omega) (by omega) (by omega) (by omega) (by omega)) (Ev.cStr (c := dots) rfl) (BinV.addS (by simp; omega)))
          (EvL.cons (ev_part (a := b) (b := b + 2 * st) rfl (Ev.nm rfl) (Ev.nm rfl) rfl (by omega) (by omega) (by omega) (by omega)) EvL.nil (fun _ => rfl)) (fun _ => rfl)) D.ell (by rfl) (fn_ell D.T D.ell _ _ (by simp; omega) (by omega)) (fun _ _ => rfl)) Ev.cBool CmpV.isT rfl
      cases hq : ellM (slcN w (b + st) (b + 2 * st) ++ dots) (slcN w b (b + 2 * st)) with
      | false =>
        rw [hq] at tst
        have e : runsW w st (f + 1) b acc = runsW w st f (b + 1) acc := by
          show (if b + 2 * st ≤ w.length then _ else _) = _
          rw [if_pos hc, hq]; rfl
        rw [e]
        exact ExW.next (τ := [("begin", .val (.int ((b + 1 : Nat) : Int))), ("step", .val (.int st)), ("word", .val (.str w)), ("runs", .own (runsPV acc))]) t (Ex.cons asg (Ex.cons (Ex1.if_ (c := false) tst Ex.nil) (Ex.cons (Ex1.aug rfl Ev.cInt InV.addI (.inr rfl)) (Ex.fin ⟨rfl, rfl, rfl, rfl, trivial⟩)))) (ih (b + 1) acc (by omega) (by omega) (by omega))
      | true =>
        rw [hq] at tst
        have hg := growE_bd w b st (w.length - (b + 2 * st)) (b + 2 * st) hc
        have eE : endOf w b st = growE w b st (w.length - (b + 2 * st)) (b + 2 * st) := rfl
        have key := runs_grow (n := n) D w hl b st hst acc (w.length - (b + 2 * st)) (b + 2 * st) (by omega) (by omega)
        have e : runsW w st (f + 1) b acc = runsW w st f (endOf w b st - st + 1) (if (lessL w b (endOf w b st) st).isEmpty then acc ++ [(b, endOf w b st, st)] else acc) := by
          show (if b + 2 * st ≤ w.length then _ else _) = _
          rw [if_pos hc, hq]; rfl
        rw [e]
        rw [← eE] at key hg
        generalize endOf w b st = en at *
        have l3 := slcN_len w b en
        have hless : Ex1 G (n + 1) dRuns.scope (rSt w en b st acc) (stAt rIb 1) (.next (("less", .val (.list (nats (lessL w b en st)))) :: rSt w en b st acc)) := by
          refine Ex1.assignCompr [("word", .val (.str w)), ("begin", .val (.int b)), ("end", .val (.int en))] (EvI.uptoN (lo := 1) (m := st - 1) (Ev.callT D.T.nb (by decide +kernel) (by decide) (by decide) (by decide) rfl (EvL.cons Ev.cInt (EvL.cons (Ev.nm rfl) EvL.nil (fun _ => rfl)) (fun _ => rfl)) CallV.range2 (fun _ _ => rfl) (fun _ _ => rfl)) (by omega) (by omega) (by omega) (by omega))
            (by rw [nats_len, List.length_range']; omega) rfl ⟨rfl, rfl, rfl, trivial⟩ rfl (fun _ _ => rfl) (.inl rfl)
            (CompOk.map (fun (k : Nat) => .int k) (fun s => ellM (slcN w (b + s) en ++ dots) (slcN w b en)) (fun (k : Nat) => .int k) (List.range' 1 (st - 1)) fun s hs => by
              have hs' := mem_upto hs
              have l4 := slcN_len w (b + s) en
              exact ⟨_, AsV.name (.inl rfl), Tests.cond (EvT.cmp (a := .bool _) (b := .bool true) (Ev.callF (by decide) rfl (EvL.cons (Ev.bin (ev_part (a := b + s) (b := en) rfl (Ev.bin (Ev.nm rfl) (Ev.nm rfl) BinV.addI) (Ev.nm rfl) (by omega) rfl (by omega) (by omega) (by omega)) (Ev.cStr (c := dots) rfl) (BinV.addS (by simp; omega)))
                (EvL.cons (ev_part (a := b) (b := en) rfl (Ev.nm rfl) (Ev.nm rfl) rfl rfl (by omega) (by omega) (by omega)) EvL.nil (fun _ => rfl)) (fun _ => rfl)) D.ell (by rfl) (fn_ell D.T D.ell _ _ (by simp; omega) (by omega)) (fun _ _ => rfl)) Ev.cBool CmpV.isT rfl) rfl, fun _ => Ev.nm rfl, ⟨rfl, rfl, rfl, trivial⟩⟩)
        have tl : EvT G (n + 1) dRuns.scope (("less", .val (.list (nats (lessL w b en st)))) :: rSt w en b st acc) (match stAt rIb 2 with | .If t _ _ _ => t | _ => default) (lessL w b en st).isEmpty :=
          EvT.to (EvT.cmp (Ev.nm rfl) (Ev.mkL EvL.nil (by simp)) (CmpV.eqNil (pok_nats _ 2)) rfl) (by cases lessL w b en st <;> rfl)
        have fin : ∀ acc', acc'.length ≤ acc.length + 1 → Ex1 G (n + 1) dRuns.scope (("less", .val (.list (nats (lessL w b en st)))) :: rSt w en b st acc) (stAt rIb 2) (.next (rSt w en b st acc')) →
            ExW G (n + 1) dRuns.scope [("begin", .val (.int b)), ("step", .val (.int st)), ("word", .val (.str w)), ("runs", .own (runsPV acc))] (whTest (stAt (forBody (stAt dRuns.body 1)) 1)) rWb [] (.next [("word", .val (.str w)), ("runs", .own (runsPV (runsW w st f (en - st + 1) acc')))]) := fun acc' hacc hx => by
          have body : Ex G (n + 1) dRuns.scope (rSt w (b + 2 * st) b st acc) rIb (.next [("begin", .val (.int ((en : Int) - st))), ("step", .val (.int st)), ("word", .val (.str w)), ("runs", .own (runsPV acc'))]) := by
            refine Ex.cons (Ex1.while_ key) (Ex.cons hless ?_)
            exact Ex.cons hx (Ex.cons (Ex1.assign (Ev.bin (Ev.nm rfl) (Ev.nm rfl) BinV.subI) (.inr rfl) (fun _ => rfl)) (Ex.fin ⟨rfl, rfl, rfl, rfl, trivial⟩))
          refine ExW.next (τ := [("begin", .val (.int ((en - st + 1 : Nat) : Int))), ("step", .val (.int st)), ("word", .val (.str w)), ("runs", .own (runsPV acc'))]) t (Ex.cons asg (Ex.cons (Ex1.if_ (c := true) tst body) (Ex.cons (Ex1.aug rfl Ev.cInt InV.addI (.inr rfl)) (Ex.fin ⟨?_, rfl, rfl, rfl, trivial⟩)))) (ih (en - st + 1) acc' (by omega) (by omega) (by omega))
          show some (Slot.val (PV.int ((en : Int) - st + 1))) = _
          rw [show (en : Int) - st + 1 = ((en - st + 1 : Nat) : Int) from by omega]
        cases he : (lessL w b en st).isEmpty with
        | true =>
          rw [he] at tl
          rw [if_pos rfl]
          refine fin _ (by simp) (Ex1.if_ (c := true) tl (Ex.cons (Ex1.append (xs := runsPV acc) rfl (pv := .tup [.int b, .int en, .int st]) (Ev.mkT (EvL.cons (Ev.nm rfl) (EvL.cons (Ev.nm rfl) (EvL.cons (Ev.nm rfl) EvL.nil (fun _ => rfl)) (fun _ => rfl)) (fun _ => rfl)) (by simp)) (by decide) (by rw [runsPV_len]; omega) (fun _ => rfl) (fun _ _ => rfl) (fun _ => rfl) rfl (fun _ => rfl)) (Ex.fin ⟨rfl, rfl, rfl, rfl, ?_, trivial⟩)))
          rw [runsPV_snoc]; rfl
        | false =>
          rw [he] at tl
          rw [if_neg Bool.false_ne_true]
          exact fin _ (by omega) (Ex1.if_ (c := false) tl (Ex.fin ⟨rfl, rfl, rfl, rfl, rfl, trivial⟩))
    · rw [decide_eq_false hc] at t
      have e : runsW w st (f + 1) b acc = acc := by
        show (if b + 2 * st ≤ w.length then _ else _) = _
        rw [if_neg hc]
      rw [e]
      exact ExW.stop t (Ex.fin ⟨rfl, rfl, trivial⟩)
theorem runs_for (D : Defs G) (w : Tx) (hl : w.length ≤ 100) : ∀ (l : List Nat) (acc : List (Nat × Nat × Nat)), (∀ st ∈ l, 1 ≤ st ∧ st ≤ 100) → acc.length + l.length * 100 ≤ 50000 →
    ExF G (n + 1) dRuns.scope [("word", .val (.str w)), ("runs", .own (runsPV acc))] (forTgt (stAt dRuns.body 1)) (nats l) true (forBody (stAt dRuns.body 1)) [] (.next [("runs", .own (runsPV (runsGo w l acc)))]) := by
  intro l
  induction l with
  | nil => intro acc h1 h2; exact ExF.nil (Ex.fin ⟨rfl, trivial⟩)
  | cons st l ih =>
    intro acc h1 h2
    simp only [List.length_cons] at h2
    have hst := h1 st (.head _)
    have hrl := runsW_len w st w.length 0 acc
    exact ExF.next (τ' := [("word", .val (.str w)), ("runs", .own (runsPV (runsW w st w.length 0 acc)))]) (AsV.name (.inl rfl)) (Ex.cons (Ex1.assign (Ev.cInt (i := ((0 : Nat) : Int))) (.inr rfl) (fun _ => rfl))
      (Ex.cons (Ex1.while_ (ExW.weak (runs_while D w hl st hst.1 hst.2 w.length 0 acc (by omega) (by omega) (by omega)) ⟨rfl, rfl, rfl, rfl, trivial⟩)) (Ex.fin ⟨rfl, rfl, trivial⟩))) (ih _ (fun x hx => h1 x (.tail _ hx)) (by omega))
theorem fn_runs (D : Defs G) (hm : dRuns ∈ recsOf G.p) (w : Tx) (hl : w.length ≤ 100) : Fn G (n + 2) "_law_runs" [.str w] (.list (runsPV (runsF w))) := by
  refine Fn.intro (d := dRuns) (ns := ["word"]) hm (by rfl) ?_ (by decide) (by decide +kernel) (by decide +kernel) rfl rfl rfl ?_
  · intro pm code doc vs hv
    (apply len1 hv; exact fun _ => rfl)
  · have hd : ((w.length : Int).fdiv 2) = ((w.length / 2 : Nat) : Int) := by
      rw [Int.fdiv_eq_ediv_of_nonneg _ (by decide)]; omega
    refine Ex.cons (Ex1.assignOwn (EvN.disp (xs := runsPV []) EvL.nil (by simp [runsPV])) rfl (fun _ => rfl)) ?_
    refine Ex.cons (Ex1.for_ (EvI.uptoN (lo := 1) (m := w.length / 2) (Ev.callT D.T.nb (by decide +kernel) (by decide) (by decide) (by decide) rfl (EvL.cons Ev.cInt (EvL.cons (Ev.bin (Ev.bin (Ev.callB D.T.nb (by decide +kernel) (by decide) (by decide) (by decide) rfl (EvL.cons (Ev.nm rfl) EvL.nil (fun _ => rfl)) (CallV.lenS (by omega)) (fun _ _ => rfl) (fun _ _ => rfl)) Ev.cInt (BinV.divI (by decide) (long2 _))) Ev.cInt BinV.addI) EvL.nil (fun _ => rfl)) (fun _ => rfl)) CallV.range2 (fun _ _ => rfl) (fun _ _ => rfl)) (by rw [hd]; omega) (by omega) (by rw [hd]; omega) (by rw [hd]; omega))
      (ExF.weak (runs_for D w hl (List.range' 1 (w.length / 2)) [] (fun st hs => by have := mem_upto hs; omega) (by rw [List.length_range']; simp; omega)) (subL.out ⟨rfl, rfl, trivial⟩)) (fun _ _ => rfl)) ?_
    exact Ex.freeze (x := "runs") (xs := runsPV (runsF w)) rfl (Ex.stop (Ex1.ret (Ev.nm rfl)) rfl)
end
end Mine
namespace Mine

section
variable {G : Gc} {n : Nat} {σ : Loc}
set_option maxHeartbeats 1000000

theorem ints_of_reps {Z : Addr → Prop} {h : Heap} : ∀ {l : List Int} {vs : List Value}, Reps Z h (its l) vs → IntsAre vs l
  | [], vs, r => by simp only [its, List.map_nil, Reps] at r; subst r; exact .nil
  | x :: l, vs, r => by
    simp only [its, List.map_cons, Reps] at r
    obtain ⟨v, ws, rfl, r1, r2⟩ := r
    simp only [Rep] at r1
    obtain ⟨t, rfl⟩ := r1
    exact .cons _ _ (ints_of_reps r2)
theorem CmpV.notInI {a : Int} {l : List Int} : CmpV G n .NotIn (.int a) (.tup (its l)) (.bool (!l.any (· == a))) := by
  intro A Z s v w Q E ok zl ra rb h
  simp only [Rep] at ra rb
  obtain ⟨t, rfl⟩ := ra
  obtain ⟨b, vs, rfl, _, hl, rs⟩ := rb
  exact PyProof.Rows.notin_tuple_ints hl (ints_of_reps rs) (fin0 h zl (by simp [Rep]))
theorem CallV.minL {l : List Int} {M : Int} (h1 : M ∈ l) (h2 : ∀ a ∈ l, M ≤ a) : CallV G n (.builtin "min") [.list (its l)] (.int M) := by
  intro A Z s vs Q E ok bs zl r h
  simp only [Reps, Rep] at r
  obtain ⟨v, ws, rfl, ⟨a, us, rfl, za, hL, rs⟩, rfl⟩ := r
  have hi := ints_of_reps rs
  obtain ⟨xs, e⟩ := hi.allInts.items
  have hns : l = xs.toList.map (·.1) := by
    rw [← hi.numsOf, ← nums_intItems, ← e]
  have hpos : 0 < l.length := List.length_pos_of_mem h1
  have hsz : 0 < xs.size := by
    have h3 := hpos; rw [hns, List.length_map, Array.length_toList] at h3; exact h3
  rw [e] at hL
  refine min_intList ok.1 hL hsz fun v h' tk hv hk => ?_
  obtain ⟨t, rfl⟩ := intItems_at hv
  obtain ⟨q1, q2⟩ := argBest_lt (numAt xs) (xs.size - 1)
  have hm : numAt xs (argBest (fun i j => decide (numAt xs i < numAt xs j)) (xs.size - 1)) ∈ l := by
    rw [hns, numAt_eq]; exact getD_mem (by rw [List.length_map, Array.length_toList]; omega)
  have hall : ∀ a ∈ l, numAt xs (argBest (fun i j => decide (numAt xs i < numAt xs j)) (xs.size - 1)) ≤ a := fun a ha => by
    rw [hns] at ha
    obtain ⟨j, hj, rfl⟩ := mem_getD ha
    rw [List.length_map, Array.length_toList] at hj
    rw [← numAt_eq]; exact q2 j (by omega)
  have eM : numAt xs (argBest (fun i j => decide (numAt xs i < numAt xs j)) (xs.size - 1)) = M := Int.le_antisymm (hall M h1) (h2 _ hm)
  rw [eM]
  exact h _ _ Z (Ext0.heap hk) (ZG.same zl (Ext0.heap (tk := tk) hk)) (by simp [Rep])
theorem reps_pt {Z : Addr → Prop} {h : Heap} {f : Nat → Int} : ∀ (l : List Value) (k : Nat), (∀ (j : Nat) (v : Value), l[j]? = some v → ∃ t, v = Value.int (f (k + j)) t) → Reps Z h ((List.range' k l.length).map fun j => PV.int (f j)) l
  | [], k, hl => by simp [Reps]
  | v :: l, k, hl => by
    rw [List.length_cons, List.range'_succ, List.map_cons]
    simp only [Reps]
    refine ⟨v, l, rfl, ?_, reps_pt l (k + 1) fun j w hj => ?_⟩
    · simpa [Rep] using hl 0 v rfl
    · have := hl (j + 1) w (by simpa using hj)
      rw [show k + 1 + j = k + (j + 1) from by omega]
      exact this
theorem CallV.listR {lo hi st : Int} {m : Nat} (hs : Builtin.Range.small lo hi st = true) (hm : Builtin.Range.rangeSize lo hi st = m) (hl : m ≤ 1000000) :
    CallV G n (.type "list") [.rng lo hi st] (.list ((List.range m).map fun (k : Nat) => .int (lo + (k : Int) * st))) := by
  intro A Z s vs Q E ok bs zl r h
  simp only [Reps, Rep] at r
  obtain ⟨v, ws, rfl, ⟨a, t, u, w, rfl, za, hr⟩, rfl⟩ := r
  refine call_list_range ok.1 hr hs hm (by omega) fun h' tk acc' c' hk hD hacc => ?_
  have e : acc' = acc'.toList.toArray := by simp
  rw [e] at hD
  refine finL (tk := tk) h zl hk hD ?_
  obtain ⟨h1, h2⟩ := hacc
  have hp := reps_pt (Z := Z) (h := h') (f := fun k => lo + (k : Int) * st) acc'.toList 0 (fun j v hj => by
    rw [Nat.zero_add]
    exact h2 j v (by rw [← Array.getElem?_toList]; exact hj))
  rw [Array.length_toList, h1, ← List.range_eq_range'] at hp
  exact hp
theorem Ev.methP {id : String} {name : Str} {ob e : Expr} {es : List Expr} {as xs : List PV} {c : PV} {sc : Scope} {apos pos : Pos} (slot : PySem.Slot "list" name id) (ty : typeOf (.builtin id) = pure (.type "method_descriptor"))
    (h1 : Ev G n sc σ ob (.pl as)) (h2 : EvL G n sc σ (e :: es) xs) (h3 : CallV G n (.builtin id) (.list as :: xs) c)
    (hbase : ∀ env, attributeBase ob name env (eval ob env) = eval ob env)
    (hfew : ∀ env, ((backTo pos (starEach (e :: es) env)).all (fun x => !x.1) && (backToKw pos (keywordEach [] env)).all (fun x => x.1.isSome)
      && decide ((e :: es).length + ([] : List Keyword).length + (if ([] : List Keyword).isEmpty then 0 else 1) < 30)) = true)
    (hline : (apos.endLine == pos.line) = true)
    (he : ∀ env pos, backTo pos (starEach (e :: es) env) = (false, eval e env) :: backTo pos (starEach es env)) (hs : ∀ env pos, (backTo pos (starEach (e :: es) env)).any (·.1) = false) :
    Ev G n sc σ (.Call (.Attribute ob name apos) (e :: es) [] pos) c := by
  refine ⟨fun F A Z W s Q E hsc ok st h => ?_⟩
  refine wpAny_Call_method_lateS (hbase _) (hfew _) hline (h1.run F A Z W s _ _ hsc ok st fun v s1 Z1 e1 z1 r1 => ?_)
  have st1 := st.ext e1 z1
  have r1' := r1
  simp only [Rep] at r1'
  obtain ⟨a, us, rfl, za, ⟨k, hp⟩, rs⟩ := r1'
  refine ⟨"list", id, PySem.F.plainAttrs_list, slot, ty, ⟨_, hp, rfl⟩, (fun b q => by cases q; exact ⟨_, hp, rfl⟩), ?_⟩
  refine Calls.callWith_builtin (hs _ _) ?_
  rw [he]
  refine Calls.evalArgs_plain ?_
  rw [← he]
  refine h2.run F A Z1 W s1 _ _ pos hsc ok st1 fun vs s2 Z2 e2 z2 r2 => ?_
  have e12 := e1.trans' e2
  have z12 := z1.trans z2 e1
  refine h3 A Z2 s2 (.ref a :: vs) _ _ ok (st.bs.ext e12) z2.lt ⟨_, _, rfl, (r1.ext e2 z2).ofPl, r2⟩ fun r s3 Z3 e3 z3 r3 => h _ _ Z3 (e12.trans' e3) (z12.trans z3 e12) r3
theorem CallV.count {l : List Int} {k : Int} : CallV G n (.builtin "list.count") [.list (its l), .int k] (.int (l.count k : Nat)) := by
  intro A Z s vs Q E ok bs zl r h
  simp only [Reps, Rep] at r
  obtain ⟨v, ws, rfl, ⟨a, us, rfl, za, hL, rs⟩, w, xs, rfl, ⟨t, rfl⟩, rfl⟩ := r
  exact count_list_ints hL (ints_of_reps rs) (h _ _ Z (Ext0.tok s _) (ZG.same zl (Ext0.tok _ _)) (by simp [Rep]))
theorem Ex1.extend {x : Str} {e : Expr} {sc : Scope} {xs ys : List PV} {p ap cp pos : Pos} (hx : σ.lookup x = some (.own xs)) (h1 : Ev G n sc σ e (.pl ys)) (hd : (x == ("__debug__" : Str)) = false) (hlen : xs.length + ys.length < 1000000)
    (hs : ∀ env, swapsWith (.Call (.Attribute (.Name x p) "extend" ap) [e] [] cp) none pos.line env = pure false) 
    (hbase : ∀ F : Fi, F.sc = sc → attributeBase (.Name x p) "extend" F.env (eval (.Name x p) F.env) = eval (.Name x p) F.env)
    (hfew : ∀ env, ((backTo cp (starEach [e] env)).all (fun x => !x.1) && (backToKw cp (keywordEach [] env)).all (fun x => x.1.isSome)
      && decide (([e] : List Expr).length + ([] : List Keyword).length + (if ([] : List Keyword).isEmpty then 0 else 1) < 30)) = true)
    (hline : (ap.endLine == cp.line) = true) (htrees : ∀ env, backTo cp (starEach [e] env) = [(false, eval e env)]) :
    Ex1 G n sc σ (.Expr (.Call (.Attribute (.Name x p) "extend" ap) [e] [] cp) pos) (.next ((x, .own (xs ++ ys)) :: σ)) := by
  refine ⟨fun F A Z W s Q E hsc ho ok st h => ?_⟩
  refine wpAny_Expr_any (wpAny_Call_method_lateS (hbase F hsc) (hfew _) hline ?_) st.inter (hs _)
  obtain ⟨a, vs, wa, va, hp, hr, _⟩ := st.ownUpd hx
  refine st.load va hd ⟨"list", "list.extend", PySem.F.plainAttrs_list, PySem.F.slot_list_extend, PySem.F.type_list_extend, ?_, (fun b q => ?_), ?_⟩
  · obtain ⟨k, e⟩ := hp; exact ⟨_, e, rfl⟩
  · cases q; obtain ⟨k, e⟩ := hp; exact ⟨_, e, rfl⟩
  rw [htrees]
  refine Calls.callWith_builtin rfl (Calls.evalArgs_plain (Calls.spliced_cons ?_))
  refine h1.run F A Z W s _ _ hsc ok st fun y s1 Z1 e1 z1 r1 => Calls.spliced_nil ?_
  have st1 := st.ext e1 z1
  obtain ⟨a1, vs1, wa1, va1, hp1, hr1, upd⟩ := st1.ownUpd hx
  have ea : Value.ref a = .ref a1 := (va.mono e1.keep').inj va1
  cases ea
  simp only [Rep] at r1
  obtain ⟨b, us, rfl, zb, ⟨kb, hb⟩, rs⟩ := r1
  obtain ⟨ka, ha⟩ := hp1
  have l1 := hr1.length
  have l2 := rs.length
  have hsz : vs1.toArray.size + us.toArray.size ≤ sizeLine := by rw [List.size_toArray, List.size_toArray, sizeLine_eq]; omega
  refine call_meets PySem.F.slot_list_extend ⟨_, ha, rfl⟩ PySem.F.entry_list_extend (PySem.F.args_list_extend_2 _ _) (AutoSeq1.list_extend_list_list_0 a vs1.toArray ka b us.toArray kb (PyProof.Rows.extend_door hsz) (Nat.le_trans (Nat.le_add_right _ _) hsz)) ⟨ha, hb, ?_⟩
  have hp' : (s1.heap.update a (Obj.mapSeq fun x => x ++ us.toArray)).PlainList a (vs1 ++ us).toArray := by
    refine ⟨if (vs1.toArray ++ us.toArray).size == vs1.toArray.size then ka else ka + 1, ?_⟩
    rw [Heap.get?_update_self _ ha (by rw [PyProof.Rows.mapSeq_app]; rfl), PyProof.Rows.mapSeq_app]
    simp
  obtain ⟨g2, st2⟩ := upd _ (vs1 ++ us) (xs ++ ys) s1.toks hp' (Heap.SameBut.update ..) (hr1.append rs)
  exact h _ _ Z1 W ((Gr.of e1 z1).trans g2) ⟨rfl, st2⟩
end
section
variable {G : Gc} {F : Fi} {Z W : Addr → Prop} {σ : Loc} {s : Shared}
theorem St.freezeP {x : Str} {xs : List PV} (st : St G F Z W σ s) (hx : σ.lookup x = some (.own xs)) : ∃ a, Gr Z W s (fun b => Z b ∨ b = a) (fun b => W b ∧ b ≠ a) s ∧ W a ∧
    St G F (fun b => Z b ∨ b = a) (fun b => W b ∧ b ≠ a) ((x, .val (.pl xs)) :: σ) s := by
  obtain ⟨ad, h1, h2⟩ := st.owns
  obtain ⟨wa, va, vs, hp, hr⟩ := h1 x xs hx
  obtain ⟨m, hm⟩ := st.ns
  refine ⟨ad x, ⟨ExtG.refl .., fun _ z => .inl z, fun b z => z.elim .inl fun e => .inr (.inl (e ▸ wa)), fun b w => .inl w.1⟩, wa, ?_⟩
  have obj : ∃ o, s.heap.get? (ad x) = some o := let ⟨k, e⟩ := hp; ⟨_, e⟩
  exact { st with
    zlt := fun b z => z.elim (st.zlt b) fun e => e ▸ obj
    wlt := fun b w => st.wlt b w.1
    wn0 := fun b w => st.wn0 b w.1
    disj := fun b z w => z.elim (fun z => st.disj b z w.1) w.2
    z0 := fun b z => z.elim (st.z0 b) fun e => .inr (e ▸ st.wn0 _ wa)
    z1 := fun b z => .inl (st.z1 b z)
    LW := ⟨st.LW, Ne.symm (list_ne hm hp)⟩
    cells := fun y o hy => let ⟨c, v, q1, q2, q3⟩ := st.cells y o hy; ⟨c, v, q1, q2, q3, Ne.symm (list_ne_cell q2 hp)⟩
    vals := fun y p hy => by
      by_cases q : y = x
      · subst q
        rw [lookup_cons_self] at hy
        cases hy
        refine ⟨_, va, ?_⟩
        simp only [Rep]
        exact ⟨_, vs, rfl, .inr rfl, hp, hr.mono (fun _ z => .inl z) fun _ _ _ e => e⟩
      · rw [lookup_cons_ne _ _ q] at hy
        obtain ⟨w, q1, q2⟩ := st.vals y p hy
        exact ⟨w, q1, q2.mono (fun _ z => .inl z) fun _ _ _ e => e⟩
    owns := by
      have ne : ∀ y ys, List.lookup y ((x, Slot.val (.pl xs)) :: σ) = some (.own ys) → y ≠ x := fun y xs hy q => by subst q; rw [lookup_cons_self] at hy; cases hy
      refine ⟨ad, fun y ys hy => ?_, fun y z ys zs hy hz => ?_⟩
      · have q := ne y ys hy
        rw [lookup_cons_ne _ _ q] at hy
        obtain ⟨a1, a2, us, a3, a4⟩ := h1 y ys hy
        exact ⟨⟨a1, h2 y x ys xs hy hx q⟩, a2, us, a3, a4.mono (fun _ z => .inl z) fun _ _ _ e => e⟩
      · have q1 := ne y ys hy
        have q2 := ne z zs hz
        rw [lookup_cons_ne _ _ q1] at hy
        rw [lookup_cons_ne _ _ q2] at hz
        exact h2 y z ys zs hy hz }
end
section
variable {G : Gc} {n : Nat} {σ : Loc} {sc : Scope} {o : Out}
theorem Ex.freezeP {ss : List Stmt} {x : Str} {xs : List PV} (hx : σ.lookup x = some (.own xs)) (h1 : Ex G n sc ((x, .val (.pl xs)) :: σ) ss o) : Ex G n sc σ ss o := by
  refine ⟨fun F A Z W s Q E hsc ho ok st h => ?_⟩
  obtain ⟨a, g, _, st'⟩ := st.freezeP hx
  exact h1.run F A _ _ s Q E hsc ho ok st' fun fl s' Z' W' g' o' => h fl s' Z' W' (g.trans g') o'
end
end Mine
namespace Mine

def pcGo (st : Nat) : Nat → Tx → List Tx
  | 0, row => []
  | f + 1, row => if row.isEmpty then [] else row.drop (row.length - st) :: pcGo st f (row.take (row.length - st))
def pcF (row : Tx) (st : Nat) : List Tx := pcGo st (row.length + 2) row
theorem slc_negN (row : Tx) (x : Nat) (hx : 1 ≤ x) : slc row (some (-(x : Int))) none = row.drop (row.length - x) ∧ slc row none (some (-(x : Int))) = row.take (row.length - x) := by
  have hc : ∀ d, clip d (some (-(x : Int))) row.length = row.length - x := fun d => by
    unfold clip
    show min (if (-(x : Int)) < 0 then -(x : Int) + row.length else -(x : Int)).toNat row.length = _
    rw [if_pos (by omega)]; omega
  unfold slc
  rw [hc, hc]
  constructor
  · show (row.drop _).take (row.length - _) = _
    rw [List.take_of_length_le]
    rw [List.length_drop]; exact Nat.le_refl _
  · show (row.drop 0).take (_ - 0) = _
    rw [List.drop_zero, Nat.sub_zero]
theorem pcGo_len (st : Nat) : ∀ (f : Nat) (row : Tx), (pcGo st f row).length ≤ f
  | 0, row => Nat.le_refl _
  | f + 1, row => by
    unfold pcGo
    split
    · simp
    · have := pcGo_len st f (row.take (row.length - st)); simp; omega
theorem grp_st (st m : Nat) (h1 : 1 ≤ st) (h2 : st ≤ 100) : Grp none [(st : Int), 0, 9] (List.replicate (m + 2) (st : Int)) false := by
  rw [List.replicate_succ]
  exact .cons (by omega) (by omega) .inf

section
variable {G : Gc} {n : Nat} {σ : Loc}
set_option maxHeartbeats 1000000

theorem pc_for (nb : NoB G) (st : Nat) (h1 : 1 ≤ st) : ∀ (f : Nat) (row : Tx) (acc : List Tx), row.length < f → row.length ≤ 1000 → acc.length + f ≤ 10000 →
    ExF G n dPieces.scope [("row", .val (.str row)), ("pieces", .own (sts acc))] (forTgt (stAt dPieces.body 1)) (its (List.replicate f (st : Int))) false (forBody (stAt dPieces.body 1)) []
      (.next [("row", .val (.str [])), ("pieces", .own (sts (acc ++ pcGo st f row)))]) := by
  intro f
  induction f with
  | zero => intro row acc h; omega
  | succ f ih =>
    intro row acc h hl ha
    obtain ⟨q1, q2⟩ := slc_negN row st h1
    have test : EvT G n dPieces.scope [("size", .val (.int st)), ("row", .val (.str row)), ("pieces", .own (sts acc))] (match stAt (forBody (stAt dPieces.body 1)) 0 with | .If t _ _ _ => t | _ => default) row.isEmpty :=
      EvT.to (EvT.cmp (Ev.nm rfl) (Ev.cStr (c := []) rfl) CmpV.eqS rfl) (by cases row <;> rfl)
    cases he : row.isEmpty with
    | true =>
      rw [he] at test
      have e0 : row = [] := List.isEmpty_iff.mp he
      subst e0
      have e : pcGo st (f + 1) [] = [] := rfl
      rw [e, List.append_nil]
      exact ExF.brk (AsV.name (.inl rfl)) (Ex.stop (Ex1.if_ (c := true) test (Ex.stop (Ex1.brkTo ⟨rfl, rfl, trivial⟩) rfl)) rfl)
    | false =>
      rw [he] at test
      have e : pcGo st (f + 1) row = row.drop (row.length - st) :: pcGo st f (row.take (row.length - st)) := by simp only [pcGo, he]; rfl
      rw [e]
      have hp : 0 < row.length := by
        cases row with
        | nil => cases he
        | cons => simp
      have ht : (row.take (row.length - st)).length = row.length - st := by rw [List.length_take]; omega
      have nxt := ih (row.take (row.length - st)) (acc ++ [row.drop (row.length - st)]) (by omega) (by omega) (by simp; omega)
      rw [List.append_assoc, List.singleton_append] at nxt
      refine ExF.next (τ' := [("row", .val (.str (row.take (row.length - st)))), ("pieces", .own (sts (acc ++ [row.drop (row.length - st)])))]) (AsV.name (.inl rfl)) (Ex.cons (Ex1.if_ (c := false) test Ex.nil)
        (Ex.cons (Ex1.append (xs := sts acc) rfl (pv := .str (row.drop (row.length - st))) (Ev.to (Ev.slcS (Ev.nm rfl) (EvP.at (Ev.neg (Ev.nm rfl))) EvP.no (by omega)) (congrArg PV.str q1)) (by decide) (by rw [sts_len]; omega) (fun _ => rfl) (fun _ _ => rfl) (fun _ => rfl) rfl (fun _ => rfl))
          (Ex.cons (Ex1.assign (Ev.to (Ev.slcS (Ev.nm rfl) EvP.no (EvP.at (Ev.neg (Ev.nm rfl))) (by omega)) (congrArg PV.str q2)) (.inl rfl) (fun _ => rfl)) (Ex.fin ⟨rfl, ?_, trivial⟩)))) nxt
      rw [sts_snoc]; rfl
theorem fn_pieces (D : Defs G) (hn : n ≤ 800) (hm : dPieces ∈ recsOf G.p) (row : Tx) (st : Nat) (hl : row.length ≤ 100) (h1 : 1 ≤ st) (h2 : st ≤ 100) : Fn G (n + 41) "_law_pieces" [.str row, .int st] (.list (sts (pcF row st))) := by
  refine Fn.intro (d := dPieces) (ns := ["row", "step"]) hm (by rfl) ?_ (by decide) (by decide +kernel) (by decide +kernel) rfl rfl rfl ?_
  · intro pm code doc vs hv
    (apply len2 hv; exact fun _ _ => rfl)
  · refine Ex.cons (Ex1.assignOwn (EvN.disp (xs := sts []) EvL.nil (by simp [sts])) rfl (fun _ => rfl)) ?_
    refine Ex.cons (Ex1.for_ (EvI.grp (gs := [(st : Int), 0, 9]) (xs := List.replicate (row.length + 2) (st : Int)) (ends := false) D.T (by omega) (by omega) D.grp rfl (by simp) (grp_st st row.length h1 h2) rfl
      (Ev.mkL (xs := its [(st : Int), 0, 9]) (EvL.cons (Ev.nm rfl) (EvL.cons Ev.cInt (EvL.cons Ev.cInt EvL.nil (fun _ => rfl)) (fun _ => rfl)) (fun _ => rfl)) (by simp [its])) (fun _ _ => rfl) (fun _ => rfl))
      (ExF.weak (pc_for D.T.nb st h1 (row.length + 2) row [] (by omega) (by omega) (by simp; omega)) (subL.out ⟨rfl, rfl, trivial⟩)) (fun _ _ => rfl)) ?_
    refine Ex.cons (Ex1.if_ (c := false) (EvT.to (EvT.cmp (Ev.nm rfl) (Ev.cStr (c := []) rfl) CmpV.neS rfl) rfl) Ex.nil) ?_
    exact Ex.freeze (x := "pieces") (xs := sts ([] ++ pcF row st)) rfl (Ex.stop (Ex1.ret (Ev.nm rfl)) rfl)

theorem nats_its (l : List Nat) : nats l = its (l.map fun (k : Nat) => (k : Int)) := by unfold nats its; rw [List.map_map]; rfl
theorem long_small (st : Nat) (h : st < 101) (y : Int) : Builtin.divisionGoesByPylong y (st : Int) = false := by
  have hd : ∀ m, m < 101 → decide ((if ((m : Nat) : Int) == 0 then 0 else ((m : Nat) : Int).natAbs.log2 / 30 + 1) > 300) = false := by decide +kernel
  have h0 : Builtin.divisionGoesByPylong y (st : Int) = (decide ((if ((st : Nat) : Int) == 0 then 0 else ((st : Nat) : Int).natAbs.log2 / 30 + 1) > 300) && decide ((if y == 0 then 0 else y.natAbs.log2 / 30 + 1) > (if ((st : Nat) : Int) == 0 then 0 else ((st : Nat) : Int).natAbs.log2 / 30 + 1) + 150)) := rfl
  rw [h0, hd st h]
  rfl
theorem range_step (h0 e st : Nat) (h1 : 1 ≤ st) (h2 : h0 + st ≤ e) : Builtin.Range.rangeSize (h0 : Int) ((e : Int) - st + 1) (st : Int) = (((e - h0) / st : Nat) : Int) := by
  unfold Builtin.Range.rangeSize
  rw [if_pos (by omega), if_pos (by omega)]
  have e1 : (e : Int) - st + 1 - h0 - 1 = ((e - h0 - st : Nat) : Int) := by omega
  rw [e1, ← Int.natCast_ediv]
  have e2 : (e - h0) / st = (e - h0 - st) / st + 1 := by
    rw [← Nat.add_div_right _ (by omega)]
    congr 1
    omega
  rw [e2]; rfl
theorem lenS {vs : List Value} {n : Nat} (h : vs.length = n + 1) : ∃ a t, vs = a :: t ∧ t.length = n := by
  cases vs with
  | nil => cases h
  | cons a t => exact ⟨a, t, rfl, Nat.succ.inj h⟩
theorem len4 {P : List Value → Prop} {vs : List Value} (h : vs.length = 4) (k : ∀ a b c d, P [a, b, c, d]) : P vs := by
  obtain ⟨a, t1, rfl, h1⟩ := lenS h
  obtain ⟨b, t2, rfl, h2⟩ := lenS h1
  obtain ⟨c, t3, rfl, h3⟩ := lenS h2
  obtain ⟨d, t4, rfl, h4⟩ := lenS h3
  cases List.length_eq_zero_iff.mp h4
  exact k a b c d
theorem len5 {P : List Value → Prop} {vs : List Value} (h : vs.length = 5) (k : ∀ a b c d e, P [a, b, c, d, e]) : P vs := by
  obtain ⟨a, t1, rfl, h1⟩ := lenS h
  exact len4 (P := fun t => P (a :: t)) h1 fun b c d e => k a b c d e
/-! _law_had -/
def sideF (w : Tx) (e st : Nat) : Int := if e < w.length then collI [w.getD e 0] [w.getD (e - st) 0] else -1
def hadL (b e st : Nat) (pairs : List Nat) : List Nat := (List.range' (b + 1) (e - st - b)).filter fun k => pairs[k]? == some st
def hadRow (h0 e st : Nat) : List Nat := (List.range ((e - h0) / st)).map fun k => h0 + k * st
def hadOk (w : Tx) (b e st : Nat) (t0 t1 : List Nat) : Option (List Nat) :=
  let side := sideF w e st
  if side == -1 || side == 1 then
    (match hadL b e st (if side == -1 then t0 else t1) with
    | [] => none
    | h0 :: r => if decide (h0 ≤ b + st) && (h0 :: r == hadRow h0 e st) then some (h0 :: r) else none)
  else none
theorem fn_had (D : Defs G) (hm : dHad ∈ recsOf G.p) (w : Tx) (b e st : Nat) (t0 t1 res : List Nat) (hl : w.length ≤ 100) (h1 : 1 ≤ st) (h2 : b + 2 * st ≤ e) (h3 : e ≤ w.length) (hl0 : t0.length = w.length) (hl1 : t1.length = w.length) (h : hadOk w b e st t0 t1 = some res) :
    Fn G (n + 2) "_law_had" [.str w, .int b, .int e, .int st, .list [.list (nats t0), .list (nats t1)]] (.pl (nats res)) := by
  refine Fn.intro (d := dHad) (ns := ["word", "begin", "end", "step", "told"]) hm (by rfl) ?_ (by decide) (by decide +kernel) (by decide +kernel) rfl rfl rfl ?_
  · intro pm code doc vs hv
    (apply len5 hv; exact fun _ _ _ _ _ => rfl)
  · unfold hadOk at h
    simp only at h
    have hside : Ex1 G (n + 1) dHad.scope (slots ["word", "begin", "end", "step", "told"] [.str w, .int b, .int e, .int st, .list [.list (nats t0), .list (nats t1)]]) (stAt dHad.body 0) (.next (("side", .val (.int (sideF w e st))) :: slots ["word", "begin", "end", "step", "told"] [.str w, .int b, .int e, .int st, .list [.list (nats t0), .list (nats t1)]])) := by
      refine Ex1.assign (Ev.ite (c := decide (e < w.length)) (EvT.to (EvT.cmp (Ev.nm rfl) (Ev.callB D.T.nb (by decide +kernel) (by decide) (by decide) (by decide) rfl (EvL.cons (Ev.nm rfl) EvL.nil (fun _ => rfl)) (CallV.lenS (by omega)) (fun _ _ => rfl) (fun _ _ => rfl)) CmpV.ltI rfl) (by rw [Bool.eq_iff_iff]; simp)) (fun hc => ?_) (fun hc => ?_)) (.inl rfl) (fun _ => rfl)
      · have hlt := of_decide_eq_true hc
        have e1 : sideF w e st = collI [w.getD e 0] [w.getD (e - st) 0] := by unfold sideF; rw [if_pos hlt]
        rw [e1]
        have g1 : w[e]? = some (w.getD e 0) := by rw [List.getD_eq_getElem?_getD, List.getElem?_eq_getElem hlt]; rfl
        have g2 : w[e - st]? = some (w.getD (e - st) 0) := by rw [List.getD_eq_getElem?_getD, List.getElem?_eq_getElem (by omega)]; rfl
        exact Ev.callF (by decide) rfl (EvL.cons (Ev.idxS (x := w.getD e 0) (Ev.nm rfl) (Ev.nm rfl) (by rw [getI_nat]; exact g1) (by omega) (fun _ _ => rfl)) (EvL.cons (Ev.idxS (x := w.getD (e - st) 0) (Ev.nm rfl) (Ev.bin (Ev.nm rfl) (Ev.nm rfl) BinV.subI) (by rw [show (e : Int) - st = ((e - st : Nat) : Int) from by omega, getI_nat]; exact g2) (by omega) (fun _ _ => rfl)) EvL.nil (fun _ => rfl)) (fun _ => rfl)) D.coll (by rfl) (fn_coll D.coll _ _) (fun _ _ => rfl)
      · have hlt := of_decide_eq_false hc
        have e1 : sideF w e st = -1 := by unfold sideF; rw [if_neg hlt]
        rw [e1]
        exact Ev.neg Ev.cInt
    refine Ex.cons hside ?_
    generalize sideF w e st = side at *
    split at h
    · rename_i hs
      have hs' : side = -1 ∨ side = 1 := by simpa using hs
      generalize hp : (if (side == -1) = true then t0 else t1) = pairs at h
      have hpl : pairs.length = w.length := by rw [← hp]; split <;> assumption
      refine Ex.cons (Ex1.if_ (c := false) (EvT.to (EvT.cmp (b := .tup (its [-1, 1])) (Ev.nm rfl) (Ev.mkT (EvL.cons (Ev.neg Ev.cInt) (EvL.cons Ev.cInt EvL.nil (fun _ => rfl)) (fun _ => rfl)) (by simp [its])) CmpV.notInI rfl) (by rcases hs' with rfl | rfl <;> rfl)) Ex.nil) ?_
      have hpairs : ∀ {σ : Loc}, σ.lookup ("side" : Str) = some (.val (.int side)) → σ.lookup ("told" : Str) = some (.val (.list [.list (nats t0), .list (nats t1)])) → Ex1 G (n + 1) dHad.scope σ (stAt dHad.body 2) (.next (("pairs", .val (.list (nats pairs))) :: σ)) := fun {σ} q1 q2 => by
        refine Ex1.assign (Ev.ite (c := side == -1) (EvT.to (EvT.cmp (Ev.nm q1) (Ev.neg Ev.cInt) CmpV.eqI rfl) rfl) (fun hc => ?_) (fun hc => ?_)) (.inr rfl) (fun _ => rfl)
        · rw [hc, if_pos rfl] at hp
          subst hp
          exact Ev.idxL (Ev.nm q2) Ev.cInt rfl (by simp) (fun _ _ => rfl)
        · rw [hc, if_neg Bool.false_ne_true] at hp
          subst hp
          exact Ev.idxL (Ev.nm q2) Ev.cInt rfl (by simp) (fun _ _ => rfl)
      refine Ex.cons (hpairs rfl rfl) ?_
      have hhl := List.length_filter_le (fun k => pairs[k]? == some st) (List.range' (b + 1) (e - st - b))
      rw [List.length_range'] at hhl
      cases hh : hadL b e st pairs with
      | nil => rw [hh] at h; cases h
      | cons h0 r =>
        rw [hh] at h
        simp only at h
        split at h
        · rename_i hcond
          obtain ⟨c1, c2⟩ := Bool.and_eq_true_iff.mp hcond
          have c1 := of_decide_eq_true c1
          have c2 : h0 :: r = hadRow h0 e st := by simpa using c2
          cases h
          have hmem : h0 ∈ hadL b e st pairs := by rw [hh]; exact .head _
          have hb0 := mem_upto (List.mem_filter.mp hmem).1
          have hlr : (h0 :: r).length ≤ 100 := by rw [← hh]; exact Nat.le_trans hhl (by omega)
          refine Ex.cons (Ex1.assignComprP [("pairs", .val (.list (nats pairs))), ("step", .val (.int st))] (EvI.uptoN (lo := b + 1) (m := e - st - b) (Ev.callT D.T.nb (by decide +kernel) (by decide) (by decide) (by decide) rfl (EvL.cons (Ev.bin (Ev.nm rfl) Ev.cInt BinV.addI) (EvL.cons (Ev.bin (Ev.bin (Ev.nm rfl) (Ev.nm rfl) BinV.subI) Ev.cInt BinV.addI) EvL.nil (fun _ => rfl)) (fun _ => rfl)) CallV.range2 (fun _ _ => rfl) (fun _ _ => rfl)) (by omega) (by omega) (by omega) (by omega))
            (by rw [nats_len, List.length_range']; omega) rfl ⟨rfl, rfl, trivial⟩ rfl (fun _ _ => rfl) (.inl rfl)
            (CompOk.map (fun (k : Nat) => .int k) (fun k => pairs[k]? == some st) (fun (k : Nat) => .int k) (List.range' (b + 1) (e - st - b)) fun k hk => by
              have hk' := mem_upto hk
              have hkl : k < pairs.length := by omega
              exact ⟨_, AsV.name (.inl rfl), Tests.cond (EvT.cmp (Ev.idxL (x := .int (pairs[k] : Nat)) (Ev.nm rfl) (Ev.nm rfl) (by rw [getI_nat, nats, List.getElem?_map, List.getElem?_eq_getElem hkl]; rfl) (by rw [nats_len]; omega) (fun _ _ => rfl)) (Ev.nm rfl) CmpV.eqI rfl) (by rw [List.getElem?_eq_getElem hkl, Bool.eq_iff_iff]; simp; omega), fun _ => Ev.nm rfl, ⟨rfl, rfl, trivial⟩⟩)) ?_
          have eh : ((List.range' (b + 1) (e - st - b)).filter fun k => pairs[k]? == some st).map (fun (k : Nat) => PV.int (k : Int)) = nats (h0 :: r) := by rw [← hh]; rfl
          rw [eh]
          have eq3 : (h0 :: r).map (fun (k : Nat) => (k : Int)) = (List.range ((e - h0) / st)).map fun (k : Nat) => (h0 : Int) + (k : Int) * (st : Int) := by
            rw [c2]
            unfold hadRow
            rw [List.map_map]
            apply List.map_congr_left
            intro k _
            simp
          have g0 : getI (nats (h0 :: r)) 0 = some (.int h0) := by
            show getI (nats (h0 :: r)) ((0 : Nat) : Int) = _
            rw [getI_nat]; rfl
          have hrs := range_step h0 e st h1 (by omega)
          have hdl : (e - h0) / st ≤ 100 := Nat.le_trans (Nat.div_le_self _ _) (by omega)
          have hsm : Builtin.Range.small (h0 : Int) ((e : Int) - st + 1) (st : Int) = true := by
            unfold Builtin.Range.small
            rw [hrs, if_pos (show (st : Int) > 0 by omega)]
            have hm0 : (0 : Int) ≤ (((e - h0) / st : Nat) : Int) := Int.natCast_nonneg _
            have hm1 : (((e - h0) / st : Nat) : Int) ≤ 100 := Int.ofNat_le.mpr hdl
            generalize (((e - h0) / st : Nat) : Int) = m at hm0 hm1 ⊢
            simp only [Builtin.Range.rangeFitsLong, Bool.and_eq_true, Bool.or_eq_true, decide_eq_true_eq, beq_iff_eq]
            omega
          refine Ex.cons (Ex1.if_ (c := false) (EvT.to (EvT.bools (EvA.or (a := false) (b := false) (EvT.to (EvT.cmp (Ev.ofPl (Ev.nm rfl)) (Ev.mkL EvL.nil (by simp)) (CmpV.eqNil (pok_nats _ 2)) rfl) rfl)
            (fun _ => EvA.or (a := false) (b := false) (EvT.to (EvT.cmp (Ev.idxL (x := .int h0) (Ev.ofPl (Ev.nm rfl)) Ev.cInt g0 (by rw [nats_len]; omega) (fun _ _ => rfl)) (Ev.bin (Ev.nm rfl) (Ev.nm rfl) BinV.addI) CmpV.gtI rfl) (decide_eq_false (by omega)))
              (fun _ => EvA.or (a := false) (b := false) (EvT.cmp (a := .list (nats (h0 :: r))) (b := .list (nats (h0 :: r))) (Ev.ofPl (Ev.nm rfl)) ?_ (by rw [nats_its]; exact CmpV.neInts) rfl) (fun _ => EvA.or0))))) rfl) Ex.nil) (Ex.stop (Ex1.ret (Ev.nm rfl)) rfl)
          refine Ev.to (Ev.callT D.T.nb (by decide +kernel) (by decide) (by decide) (by decide) rfl (EvL.cons (Ev.callT D.T.nb (by decide +kernel) (by decide) (by decide) (by decide) rfl (EvL.cons (Ev.idxL (x := .int h0) (Ev.ofPl (Ev.nm rfl)) Ev.cInt g0 (by rw [nats_len]; omega) (fun _ _ => rfl)) (EvL.cons (Ev.bin (Ev.bin (Ev.nm rfl) (Ev.nm rfl) BinV.subI) Ev.cInt BinV.addI) (EvL.cons (Ev.nm rfl) EvL.nil (fun _ => rfl)) (fun _ => rfl)) (fun _ => rfl))
            (CallV.range3 (by omega) ?_) (fun _ _ => rfl) (fun _ _ => rfl)) EvL.nil (fun _ => rfl)) (CallV.listR hsm hrs (by omega)) (fun _ _ => rfl) (fun _ _ => rfl)) ?_
          · exact long_small st (by omega) _
          · rw [nats_its, eq3, its, List.map_map]; rfl
        · cases h
    · cases h
end
end Mine
namespace Mine

def dueL (w : Tx) (k : Nat) : List Nat := (List.range' (k + 1) (6 - k)).filter fun j => decide (w.drop j < w.drop k)
def dueK (w : Tx) (k : Nat) : Nat := (dueL w k).headD 7 - k
def dueF (w : Tx) : List Nat := (List.range' 0 7).map (dueK w)
theorem due_min (w : Tx) (k : Nat) (hk : k < 7) : k ≤ (dueL w k).headD 7 ∧ (((dueL w k).headD 7 : Nat) : Int) ∈ (dueL w k ++ [7]).map (fun (j : Nat) => (j : Int)) ∧ ∀ a ∈ (dueL w k ++ [7]).map (fun (j : Nat) => (j : Int)), (((dueL w k).headD 7 : Nat) : Int) ≤ a := by
  have hp : (dueL w k).Pairwise (· < ·) := (List.pairwise_lt_range' (s := k + 1) (n := 6 - k)).filter _
  have hb : ∀ j ∈ dueL w k, k + 1 ≤ j ∧ j < 7 := fun j hj => by
    have := mem_upto (List.mem_filter.mp hj).1
    omega
  generalize dueL w k = l at *
  cases l with
  | nil =>
    refine ⟨by simp; omega, by simp, ?_⟩
    intro a ha
    simp at ha
    subst ha
    simp
  | cons m r =>
    have hm := hb m (.head _)
    refine ⟨by simp; omega, by simp, ?_⟩
    intro a ha
    obtain ⟨j, hj, rfl⟩ := List.mem_map.mp ha
    show (m : Int) ≤ (j : Int)
    rcases List.mem_append.mp hj with hj | hj
    · rcases List.mem_cons.mp hj with rfl | hj
      · omega
      · have := (List.pairwise_cons.mp hp).1 j hj; omega
    · rw [List.mem_singleton.mp hj]; omega

section
variable {G : Gc} {n : Nat} {σ : Loc}
set_option maxHeartbeats 1000000

theorem fn_due (nb : NoB G) (hm : dDue ∈ recsOf G.p) (w : Tx) (hl : w.length = 7) : Fn G (n + 1) "_law_due" [.str w] (.list (nats (dueF w))) := by
  refine Fn.intro (d := dDue) (ns := ["word"]) hm (by rfl) ?_ (by decide) (by decide +kernel) (by decide +kernel) rfl rfl rfl ?_
  · intro pm code doc vs hv
    (apply len1 hv; exact fun _ => rfl)
  · have e : (((List.range' 0 7).filter fun _ => true).map fun k => PV.int ((((dueL w k).headD 7 : Nat) : Int) - (k : Int))) = nats (dueF w) := by
      rw [List.filter_eq_self.mpr (fun _ _ => rfl)]
      unfold nats dueF
      rw [List.map_map]
      apply List.map_congr_left
      intro k hk
      have hk' := mem_upto hk
      have := (due_min w k (by omega)).1
      show PV.int _ = PV.int ((dueK w k : Nat) : Int)
      unfold dueK
      congr 1
      omega
    rw [← e]
    refine Ex.stop (Ex1.ret (Ev.compr [("word", .val (.str w))] (EvI.uptoN (lo := 0) (m := 7) (Ev.callT nb (by decide +kernel) (by decide) (by decide) (by decide) rfl (EvL.cons Ev.cInt EvL.nil (fun _ => rfl)) CallV.range1 (fun _ _ => rfl) (fun _ _ => rfl)) (by decide) (by omega) (by omega) (by omega))
      (by simp [nats]) rfl ⟨rfl, trivial⟩ rfl (fun _ _ => rfl)
      (CompOk.map (fun (k : Nat) => .int k) (fun _ => true) (fun (k : Nat) => .int ((((dueL w k).headD 7 : Nat) : Int) - (k : Int))) (List.range' 0 7) fun k hk => ?_))) rfl
    have hk' := mem_upto hk
    obtain ⟨d1, d2, d3⟩ := due_min w k (by omega)
    refine ⟨_, AsV.cellC (mem_cellNames.mpr (by decide +kernel)) rfl, .nil, fun _ => ?_, ⟨rfl, trivial⟩⟩
    have el : its ((dueL w k ++ [7]).map fun (j : Nat) => (j : Int)) = nats (dueL w k) ++ its [7] := by
      rw [List.map_append, its_app, ← nats_its]; rfl
    refine Ev.bin (Ev.callB nb (by decide +kernel) (by decide) (by decide) (by decide) rfl (EvL.cons (Ev.to (Ev.bin (Ev.comprN [("word", .val (.str w)), ("k", .val (.int k))] (EvI.uptoN (lo := k + 1) (m := 6 - k) (Ev.callT nb (by decide +kernel) (by decide) (by decide) (by decide) rfl (EvL.cons (Ev.bin (Ev.nm rfl) Ev.cInt BinV.addI) (EvL.cons Ev.cInt EvL.nil (fun _ => rfl)) (fun _ => rfl)) CallV.range2 (fun _ _ => rfl) (fun _ _ => rfl)) (by omega) (by omega) (by omega) (by omega))
        (by rw [nats_len, List.length_range']; omega) rfl ⟨rfl, rfl, trivial⟩ rfl (fun _ _ => rfl)
        (CompOk.map (fun (j : Nat) => .int j) (fun j => decide (w.drop j < w.drop k)) (fun (j : Nat) => .int j) (List.range' (k + 1) (6 - k)) fun j hj => ?_)) (Ev.mkL (xs := its [7]) (EvL.cons Ev.cInt EvL.nil (fun _ => rfl)) (by simp [its])) (BinV.addL ?_)) (congrArg PV.list (?_ : _ = its ((dueL w k ++ [7]).map fun (j : Nat) => (j : Int))))) EvL.nil (fun _ => rfl)) (CallV.minL d2 d3) (fun _ _ => rfl) (fun _ _ => rfl)) (Ev.nm rfl) BinV.subI
    · have hj' := mem_upto hj
      exact ⟨_, AsV.name (.inl rfl), Tests.cond (EvT.cmp (Ev.to (Ev.slcS (Ev.nm rfl) (EvP.at (Ev.nm rfl)) EvP.no (by omega)) (congrArg PV.str (slc_from w j (by omega)))) (Ev.to (Ev.slcS (Ev.nm rfl) (EvP.at (Ev.nm rfl)) EvP.no (by omega)) (congrArg PV.str (slc_from w k (by omega)))) CmpV.ltS rfl) rfl, fun _ => Ev.nm rfl, ⟨rfl, rfl, trivial⟩⟩
    · have := List.length_filter_le (fun j => decide (w.drop j < w.drop k)) (List.range' (k + 1) (6 - k))
      rw [List.length_range'] at this
      rw [List.length_map, its_len]
      simp only [List.length_cons, List.length_nil]
      omega
    · rw [el]; rfl
end
end Mine
namespace Mine

def timesOk (root two : Tx) (t : Nat) : Bool := (ellM (joinT dots (List.replicate t root)) two == (t == 2)) && (ellM (dots ++ joinT dots (List.replicate t root) ++ dots) two == decide (t < 3))
def rootOk (w : Tx) (b st : Nat) : Bool := !ellM (slcN w b (b + st) ++ dots ++ slcN w b (b + st)) (slcN w b (b + st)) && !ellM (dots ++ (slcN w b (b + 2 * st)).take (st + 1) ++ dots ++ slcN w b (b + st) ++ dots) (slcN w b (b + 2 * st)) &&
  [1, 2, 3].all (timesOk (slcN w b (b + st)) (slcN w b (b + 2 * st)))
def pcsOk (w : Tx) (b e st : Nat) : Bool := match pcF (slcN w b e) st with
  | p0 :: p1 :: r => (p0 :: p1 :: r).all (fun p => ellM (dots ++ p) p0) && ellM p1 p0 && (collI p0 p1 == 0)
  | _ => false
def moreOk (w : Tx) (b e st : Nat) : Bool := match pcF (slcN w (b - 1) e) st with
  | m0 :: r => (b == 0) || !ellM (dots ++ (m0 :: r).getLastD []) m0
  | [] => false
def isRunOk (w : Tx) (b e st : Nat) : Bool := rootOk w b st && pcsOk w b e st && moreOk w b e st
theorem pcGo_B (st B : Nat) : ∀ (f : Nat) (row : Tx), row.length ≤ B → ∀ p ∈ pcGo st f row, p.length ≤ B
  | 0, row, h, p, hp => by cases hp
  | f + 1, row, h, p, hp => by
    unfold pcGo at hp
    split at hp
    · cases hp
    · rcases List.mem_cons.mp hp with rfl | hp
      · rw [List.length_drop]; omega
      · exact pcGo_B st B f _ (by rw [List.length_take]; omega) p hp
theorem repL_sts (x : Tx) : ∀ k, repL (sts [x]) k = sts (List.replicate k x)
  | 0 => rfl
  | k + 1 => by
    show sts [x] ++ repL (sts [x]) k = _
    rw [repL_sts x k, List.replicate_succ]; rfl
theorem joinW_rep (x : Tx) (k : Nat) : joinW dots (List.replicate k x) = k * (x.length + 3) := by
  unfold joinW
  rw [List.map_replicate, List.sum_replicate_nat]
  rfl

section
variable {G : Gc} {n : Nat} {σ : Loc}
set_option maxHeartbeats 1000000

abbrev iS0 (w : Tx) (b e st : Nat) : Loc := [("word", .val (.str w)), ("begin", .val (.int b)), ("end", .val (.int e)), ("step", .val (.int st))]
abbrev iS1 (w : Tx) (b e st : Nat) (root two : Tx) : Loc := ("root", .val (.str root)) :: ("two", .val (.str two)) :: iS0 w b e st
theorem isr_0 (w : Tx) (b e st : Nat) (hl : w.length ≤ 100) (h1 : 1 ≤ st) (h2 : b + 2 * st ≤ e) (h3 : e ≤ w.length) : Ex1 G n dIsRun.scope (iS0 w b e st) (stAt dIsRun.body 0) (.next (("root", .val (.str (slcN w b (b + st)))) :: ("two", .val (.str (slcN w b (b + 2 * st)))) :: iS0 w b e st)) :=
  Ex1.assignSw (a := "root") (b := "two") (x := .str (slcN w b (b + st))) (y := .str (slcN w b (b + 2 * st))) (Ev.mkT (EvL.cons (ev_part (a := b) (b := b + st) rfl (Ev.nm rfl) (Ev.bin (Ev.nm rfl) (Ev.nm rfl) BinV.addI) rfl (by omega) (by omega) (by omega) (by omega))
    (EvL.cons (ev_part (a := b) (b := b + 2 * st) rfl (Ev.nm rfl) (Ev.bin (Ev.nm rfl) (Ev.bin Ev.cInt (Ev.nm rfl) (BinV.mulI (IntMulOk.of_right (intBits_le_64 (by omega) (by omega))))) BinV.addI) rfl (by omega) (by omega) (by omega) (by omega)) EvL.nil (fun _ => rfl)) (fun _ => rfl)) (by simp)) (.inl rfl) (.inl rfl) (fun _ => rfl) (fun F h => by cases F; subst h; rfl)
theorem CmpV.isNotF {b : Bool} : CmpV G n .IsNot (.bool b) (.bool false) (.bool b) := by
  have := CmpV.isNot (G := G) (n := n) (a := .bool b) (b := .bool false) rfl
  rw [bool_is] at this
  cases b <;> exact this
theorem CmpV.isNotT {b : Bool} : CmpV G n .IsNot (.bool b) (.bool true) (.bool (!b)) := by
  have := CmpV.isNot (G := G) (n := n) (a := .bool b) (b := .bool true) rfl
  rw [bool_is] at this
  cases b <;> exact this
theorem isr_1 (D : Defs G) (w : Tx) (b e st : Nat) (root two : Tx) (hr : root.length ≤ 100) (h : ellM (root ++ dots ++ root) root = false) : Ex1 G (n + 1) dIsRun.scope (iS1 w b e st root two) (stAt dIsRun.body 1) (.next (iS1 w b e st root two)) := by
  refine Ex1.if_ (c := false) (EvT.to (EvT.cmp (a := .bool (ellM (root ++ dots ++ root) root)) (b := .bool false) (Ev.callF (by decide) rfl (EvL.cons (Ev.bin (Ev.bin (Ev.nm rfl) (Ev.cStr (c := dots) rfl) (BinV.addS (by simp; omega))) (Ev.nm rfl) (BinV.addS (by simp; omega))) (EvL.cons (Ev.nm rfl) EvL.nil (fun _ => rfl)) (fun _ => rfl)) D.ell (by rfl)
    (fn_ell D.T D.ell _ _ (by simp; omega) (by omega)) (fun _ _ => rfl)) Ev.cBool CmpV.isNotF rfl) h) Ex.nil
theorem isr_2 (D : Defs G) (w : Tx) (b e st : Nat) (root two : Tx) (hr : root.length ≤ 100) (ht : two.length ≤ 100) (hst : st + 1 ≤ two.length) (h : ellM (dots ++ two.take (st + 1) ++ dots ++ root ++ dots) two = false) :
    Ex1 G (n + 1) dIsRun.scope (iS1 w b e st root two) (stAt dIsRun.body 2) (.next (iS1 w b e st root two)) := by
  have l1 : (two.take (st + 1)).length ≤ 100 := by rw [List.length_take]; omega
  refine Ex1.if_ (c := false) (EvT.to (EvT.cmp (a := .bool (ellM (dots ++ two.take (st + 1) ++ dots ++ root ++ dots) two)) (b := .bool false) (Ev.callF (by decide) rfl (EvL.cons (Ev.bin (Ev.bin (Ev.bin (Ev.bin (Ev.cStr (c := dots) rfl) (Ev.to (Ev.slcS (Ev.nm rfl) EvP.no (EvP.at (Ev.bin (Ev.nm rfl) Ev.cInt BinV.addI)) (by omega)) (congrArg PV.str (slc_to two (st + 1) hst))) (BinV.addS ?_)) (Ev.cStr (c := dots) rfl) (BinV.addS ?_)) (Ev.nm rfl) (BinV.addS ?_)) (Ev.cStr (c := dots) rfl) (BinV.addS ?_)) (EvL.cons (Ev.nm rfl) EvL.nil (fun _ => rfl)) (fun _ => rfl)) D.ell (by rfl)
    (fn_ell D.T D.ell _ _ ?_ (by omega)) (fun _ _ => rfl)) Ev.cBool CmpV.isNotF rfl) h) Ex.nil
  all_goals (simp only [List.length_append, List.length_cons, List.length_nil] at *; omega)
theorem isr_for (D : Defs G) (w : Tx) (b e st : Nat) (root two : Tx) (hr : root.length ≤ 100) (ht : two.length ≤ 100) : ∀ (ts : List Nat), (∀ t ∈ ts, t ≤ 3 ∧ timesOk root two t = true) →
    ExF G (n + 1) dIsRun.scope (iS1 w b e st root two) (forTgt (stAt dIsRun.body 3)) (nats ts) true (forBody (stAt dIsRun.body 3)) [] (.next (iS1 w b e st root two)) := by
  intro ts
  induction ts with
  | nil => intro h; exact ExF.nil (Ex.fin ⟨rfl, rfl, rfl, rfl, rfl, rfl, trivial⟩)
  | cons t ts ih =>
    intro h
    obtain ⟨t3, htk⟩ := h t (.head _)
    have hjw : joinW dots (List.replicate t root) ≤ 400 := by
      rw [joinW_rep]
      exact Nat.le_trans (Nat.mul_le_mul t3 (show root.length + 3 ≤ 103 by omega)) (by decide)
    have hjl := joinT_len dots (List.replicate t root)
    have asg : Ex1 G (n + 1) dIsRun.scope (("times", .val (.int t)) :: iS1 w b e st root two) (stAt (forBody (stAt dIsRun.body 3)) 0) (.next (("want", .val (.str (joinT dots (List.replicate t root)))) :: ("times", .val (.int t)) :: iS1 w b e st root two)) :=
      Ex1.assign (Ev.methS PySem.F.slot_str_join PySem.F.type_str_join (Ev.cStr (c := dots) rfl) (EvL.cons (Ev.to (Ev.mulN (xs := sts [root]) (k := t) (EvN.disp (xs := sts [root]) (EvL.cons (Ev.nm rfl) EvL.nil (fun _ => rfl)) (by simp [sts])) (Ev.nm rfl) (by simp [sts]) (by simp [sts]; omega) (by omega)) (congrArg PV.list (repL_sts root t))) EvL.nil (fun _ => rfl)) (CallV.join (by omega)) (fun _ => rfl) (fun _ => rfl) rfl (fun _ _ => rfl) (fun _ _ => rfl)) (.inl rfl) (fun _ => rfl)
    unfold timesOk at htk
    obtain ⟨c1, c2⟩ := Bool.and_eq_true_iff.mp htk
    generalize joinT dots (List.replicate t root) = want at *
    have test : EvT G (n + 1) dIsRun.scope (("want", .val (.str want)) :: ("times", .val (.int t)) :: iS1 w b e st root two) (match stAt (forBody (stAt dIsRun.body 3)) 1 with | .If t _ _ _ => t | _ => default) false := by
      refine EvT.to (EvT.bools (EvA.or (a := false) (b := false) (EvT.to (EvT.cmp (a := .bool (ellM want two)) (b := .bool (t == 2)) (Ev.callF (by decide) rfl (EvL.cons (Ev.nm rfl) (EvL.cons (Ev.nm rfl) EvL.nil (fun _ => rfl)) (fun _ => rfl)) D.ell (by rfl) (fn_ell D.T D.ell want two (by omega) (by omega)) (fun _ _ => rfl)) (Ev.to (Ev.cmp (Ev.nm rfl) Ev.cInt CmpV.eqI rfl) (congrArg PV.bool (by rw [Bool.eq_iff_iff]; simp; omega))) (CmpV.isNot rfl) rfl) (by rw [bool_is, c1]; rfl))
        (fun _ => EvA.or (a := false) (b := false) (EvT.to (EvT.cmp (a := .bool (ellM (dots ++ want ++ dots) two)) (b := .bool (decide (t < 3))) (Ev.callF (by decide) rfl (EvL.cons (Ev.bin (Ev.bin (Ev.cStr (c := dots) rfl) (Ev.nm rfl) (BinV.addS (by simp; omega))) (Ev.cStr (c := dots) rfl) (BinV.addS (by simp; omega))) (EvL.cons (Ev.nm rfl) EvL.nil (fun _ => rfl)) (fun _ => rfl)) D.ell (by rfl) (fn_ell D.T D.ell _ two (by simp; omega) (by omega)) (fun _ _ => rfl)) (Ev.to (Ev.cmp (Ev.nm rfl) Ev.cInt CmpV.ltI rfl) (congrArg PV.bool (by rw [Bool.eq_iff_iff]; simp; omega))) (CmpV.isNot rfl) rfl) (by rw [bool_is, c2]; rfl)) (fun _ => EvA.or0)))) rfl
    exact ExF.next (τ' := iS1 w b e st root two) (AsV.name (.inl rfl)) (Ex.cons asg (Ex.cons (Ex1.if_ (c := false) test Ex.nil) (Ex.fin ⟨rfl, rfl, rfl, rfl, rfl, rfl, trivial⟩))) (ih fun x hx => h x (.tail _ hx))
theorem isr_3 (D : Defs G) (w : Tx) (b e st : Nat) (root two : Tx) (hr : root.length ≤ 100) (ht : two.length ≤ 100) (h : [1, 2, 3].all (timesOk root two) = true) : Ex1 G (n + 1) dIsRun.scope (iS1 w b e st root two) (stAt dIsRun.body 3) (.next (iS1 w b e st root two)) := by
  refine Ex1.for_ (EvI.tup (Ev.mkT (xs := nats [1, 2, 3]) (EvL.cons Ev.cInt (EvL.cons Ev.cInt (EvL.cons Ev.cInt EvL.nil (fun _ => rfl)) (fun _ => rfl)) (fun _ => rfl)) (by simp [nats]))) (isr_for D w b e st root two hr ht [1, 2, 3] fun t htm => ⟨?_, List.all_eq_true.mp h t htm⟩) (fun _ _ => rfl)
  simp at htm; omega
theorem isr_4a (D : Defs G) (hn : n ≤ 800) (w : Tx) (b e st : Nat) (h1 : 1 ≤ st) (hb : b + 2 * st ≤ e) (he : e ≤ 100) : EvT G (n + 40) dIsRun.scope (iS0 w b e st) (match stAt dIsRun.body 4 with | .If (.BoolOp _ (t :: _) _) _ _ _ => t | _ => default) false := by
  have el : (e : Int) - b = ((e - b : Nat) : Int) := by omega
  refine EvT.cmp (a := .list (its [(st : Int), (e : Int) - b])) (b := .list (its [(st : Int), (e : Int) - b])) (Ev.to (Ev.compr [] (EvI.grp (gs := [(st : Int), (e : Int) - b, 127, 9]) (xs := [(st : Int), (e : Int) - b]) (ends := true) D.T (by omega) (by omega) D.grp rfl (by simp) (.cons (by omega) (by omega) (.cons (by omega) (by omega) .stop)) rfl
    (Ev.mkL (xs := its [(st : Int), (e : Int) - b, 127, 9]) (EvL.cons (Ev.nm rfl) (EvL.cons (Ev.bin (Ev.nm rfl) (Ev.nm rfl) BinV.subI) (EvL.cons Ev.cInt (EvL.cons Ev.cInt EvL.nil (fun _ => rfl)) (fun _ => rfl)) (fun _ => rfl)) (fun _ => rfl)) (by simp [its])) (fun _ _ => rfl) (fun _ => rfl)) (by simp [its]) rfl trivial rfl (fun _ _ => rfl)
    (CompOk.map (fun (x : Int) => .int x) (fun _ => true) (fun (x : Int) => .int x) [(st : Int), (e : Int) - b] fun x hx => ⟨_, AsV.name (.inl rfl), .nil, fun _ => Ev.nm rfl, trivial⟩)) (by rw [List.filter_eq_self.mpr (fun _ _ => rfl)]; rfl))
    (Ev.mkL (xs := its [(st : Int), (e : Int) - b]) (EvL.cons (Ev.nm rfl) (EvL.cons (Ev.bin (Ev.nm rfl) (Ev.nm rfl) BinV.subI) EvL.nil (fun _ => rfl)) (fun _ => rfl)) (by simp [its])) CmpV.neInts rfl
end
end Mine
namespace Mine

section
variable {G : Gc} {n : Nat} {σ : Loc}
set_option maxHeartbeats 1000000

abbrev iS5 (w : Tx) (b e st : Nat) (ps : List Tx) : Loc := ("pieces", .val (.list (sts ps))) :: iS0 w b e st
theorem isr_5 (D : Defs G) (hn : n ≤ 800) (hm : dPieces ∈ recsOf G.p) (w : Tx) (b e st : Nat) (hl : w.length ≤ 100) (h1 : 1 ≤ st) (h2 : b + 2 * st ≤ e) (h3 : e ≤ w.length) :
    Ex1 G (n + 41) dIsRun.scope (iS0 w b e st) (stAt dIsRun.body 5) (.next (iS5 w b e st (pcF (slcN w b e) st))) :=
  Ex1.assign (Ev.callF (by decide) rfl (EvL.cons (ev_part (a := b) (b := e) rfl (Ev.nm rfl) (Ev.nm rfl) rfl rfl (by omega) (by omega) (by omega)) (EvL.cons (Ev.nm rfl) EvL.nil (fun _ => rfl)) (fun _ => rfl)) hm (by rfl) (fn_pieces (n := n) D hn hm _ st (by have := slcN_len w b e; omega) h1 (by omega)) (fun _ _ => rfl)) (.inr rfl) (fun _ => rfl)
theorem get_sts0 {p : Tx} {r : List Tx} : getI (sts (p :: r)) 0 = some (.str p) := by
  show getI (sts (p :: r)) ((0 : Nat) : Int) = _
  rw [getI_nat]; rfl
theorem get_sts1 {p q : Tx} {r : List Tx} : getI (sts (p :: q :: r)) 1 = some (.str q) := by
  show getI (sts (p :: q :: r)) ((1 : Nat) : Int) = _
  rw [getI_nat]; rfl
theorem isr_6 (D : Defs G) (w : Tx) (b e st : Nat) (p0 : Tx) (r : List Tx) (hp : ∀ p ∈ p0 :: r, p.length ≤ 100) (hl : (p0 :: r).length ≤ 1000) (h : (p0 :: r).all (fun p => ellM (dots ++ p) p0) = true) :
    Ex1 G (n + 1) dIsRun.scope (iS5 w b e st (p0 :: r)) (stAt dIsRun.body 6) (.next (iS5 w b e st (p0 :: r))) := by
  have hf : ((p0 :: r).filter fun p => !ellM (dots ++ p) p0) = [] := by
    rw [List.filter_eq_nil_iff]
    intro a ha
    rw [List.all_eq_true.mp h a ha]; decide
  have h0 := hp p0 (.head _)
  refine Ex1.if_ (c := false) (EvT.to (EvT.cmp (a := .list []) (Ev.to (Ev.compr [("pieces", .val (.list (sts (p0 :: r))))] (EvI.list (Ev.nm rfl)) (by rw [sts_len]; omega) rfl ⟨rfl, trivial⟩ rfl (fun _ _ => rfl)
    (CompOk.map (fun p => .str p) (fun p => !ellM (dots ++ p) p0) (fun p => .str p) (p0 :: r) fun p hpm => ?_)) (by rw [hf]; rfl)) (Ev.mkL EvL.nil (by simp)) (CmpV.neNil rfl) rfl) rfl) Ex.nil
  have hpl := hp p hpm
  exact ⟨_, AsV.name (.inl rfl), Tests.cond (EvT.cmp (a := .bool (ellM (dots ++ p) p0)) (b := .bool true) (Ev.callF (by decide) rfl (EvL.cons (Ev.bin (Ev.cStr (c := dots) rfl) (Ev.nm rfl) (BinV.addS (by simp; omega))) (EvL.cons (Ev.idxL (x := .str p0) (Ev.nm rfl) Ev.cInt get_sts0 (by rw [sts_len]; omega) (fun _ _ => rfl)) EvL.nil (fun _ => rfl)) (fun _ => rfl)) D.ell (by rfl)
    (fn_ell D.T D.ell _ _ (by simp; omega) (by omega)) (fun _ _ => rfl)) Ev.cBool CmpV.isNotT rfl) rfl, fun _ => Ev.nm rfl, ⟨rfl, trivial⟩⟩
abbrev iS7 (w : Tx) (b e st : Nat) (ps ms : List Tx) : Loc := ("more", .val (.list (sts ms))) :: iS5 w b e st ps
theorem isr_7 (D : Defs G) (hn : n ≤ 800) (hm : dPieces ∈ recsOf G.p) (w : Tx) (b e st : Nat) (ps : List Tx) (hl : w.length ≤ 100) (h1 : 1 ≤ st) (h2 : b + 2 * st ≤ e) (h3 : e ≤ w.length) :
    Ex1 G (n + 41) dIsRun.scope (iS5 w b e st ps) (stAt dIsRun.body 7) (.next (iS7 w b e st ps (pcF (slcN w (b - 1) e) st))) :=
  Ex1.assign (Ev.callF (by decide) rfl (EvL.cons (ev_part (a := b - 1) (b := e) (x := max ((b : Int) - 1) 0) rfl (Ev.callB D.T.nb (by decide +kernel) (by decide) (by decide) (by decide) rfl (EvL.cons (Ev.bin (Ev.nm rfl) Ev.cInt BinV.subI) (EvL.cons Ev.cInt EvL.nil (fun _ => rfl)) (fun _ => rfl)) CallV.max2 (fun _ _ => rfl) (fun _ _ => rfl)) (Ev.nm rfl) (by omega) rfl (by omega) (by omega) (by omega)) (EvL.cons (Ev.nm rfl) EvL.nil (fun _ => rfl)) (fun _ => rfl)) hm (by rfl) (fn_pieces (n := n) D hn hm _ st (by have := slcN_len w (b - 1) e; omega) h1 (by omega)) (fun _ _ => rfl)) (.inl rfl) (fun _ => rfl)
theorem isr_8 (D : Defs G) (w : Tx) (b e st : Nat) (ps : List Tx) (m0 : Tx) (r : List Tx) (hp : ∀ p ∈ m0 :: r, p.length ≤ 100) (hl : (m0 :: r).length ≤ 1000) (h : ((b == 0) || !ellM (dots ++ (m0 :: r).getLastD []) m0) = true) :
    Ex1 G (n + 1) dIsRun.scope (iS7 w b e st ps (m0 :: r)) (stAt dIsRun.body 8) (.next (iS7 w b e st ps (m0 :: r))) := by
  have h0 := hp m0 (.head _)
  have hlast := hp _ (getLastD_mem (ws := m0 :: r) (by simp))
  have hg : getI (sts (m0 :: r)) (-1) = some (.str ((m0 :: r).getLastD [])) := getI_sts_last (by simp)
  generalize (m0 :: r).getLastD [] = ml at *
  refine Ex1.if_ (c := false) (EvT.to (EvT.bools (EvA.and (a := decide (0 < b)) (EvT.to (EvT.cmp (Ev.nm rfl) Ev.cInt CmpV.gtI rfl) (by rw [Bool.eq_iff_iff]; simp)) (fun _ => EvA.and (a := ellM (dots ++ ml) m0) (b := true) (EvT.cmp (a := .bool (ellM (dots ++ ml) m0)) (b := .bool false) (Ev.callF (by decide) rfl (EvL.cons (Ev.bin (Ev.cStr (c := dots) rfl) (Ev.idxL (x := .str ml) (Ev.nm rfl) (Ev.neg Ev.cInt) hg (by rw [sts_len]; omega) (fun _ _ => rfl)) (BinV.addS (by simp; omega)))
    (EvL.cons (Ev.idxL (x := .str m0) (Ev.nm rfl) Ev.cInt get_sts0 (by rw [sts_len]; omega) (fun _ _ => rfl)) EvL.nil (fun _ => rfl)) (fun _ => rfl)) D.ell (by rfl) (fn_ell D.T D.ell _ _ (by simp; omega) (by omega)) (fun _ _ => rfl)) Ev.cBool CmpV.isNotF rfl) (fun _ => EvA.and0)))) ?_) Ex.nil
  cases hq : ellM (dots ++ ml) m0 with
  | false => simp
  | true =>
    rw [hq] at h
    have : b = 0 := by simpa using h
    subst this; rfl
/-- two values joined: the first is True -/
theorem Ev.andT {sc : Scope} {l r : Expr} {c : PV} {pos} (h1 : Ev G n sc σ l (.bool true)) (h2 : Ev G n sc σ r c) : Ev G n sc σ (.BoolOp .And [l, r] pos) c := by
  refine ⟨fun F A Z W s Q E hsc ok st h => ?_⟩
  refine wpAny_And2 (h1.run F A Z W s _ _ hsc ok st fun v s1 Z1 e1 z1 r1 => ?_)
  simp only [Rep] at r1
  subst r1
  refine wpAny_truthy_bool ?_
  rw [if_pos rfl]
  exact h2.run F A Z1 W s1 _ _ hsc ok (st.ext e1 z1) fun v s2 Z2 e2 z2 r2 => h _ _ Z2 (e1.trans' e2) (z1.trans z2 e1) r2
theorem isr_9 (D : Defs G) (w : Tx) (b e st : Nat) (p0 p1 : Tx) (r ms : List Tx) (hp : ∀ p ∈ p0 :: p1 :: r, p.length ≤ 100) (hl : (p0 :: p1 :: r).length ≤ 1000) (h1 : ellM p1 p0 = true) (h2 : (collI p0 p1 == 0) = true) :
    Ex1 G (n + 1) dIsRun.scope (iS7 w b e st (p0 :: p1 :: r) ms) (stAt dIsRun.body 9) (.ret (.bool true)) := by
  have l0 := hp p0 (.head _)
  have l1 := hp p1 (.tail _ (.head _))
  have i0 : ∀ {p q t : Pos}, Ev G (n + 1) dIsRun.scope (iS7 w b e st (p0 :: p1 :: r) ms) (.Subscript (.Name "pieces" p) (.Constant (.int 0) 0 q) t) (.str p0) := fun {p q t} => Ev.idxL (x := .str p0) (Ev.nm rfl) Ev.cInt get_sts0 (by rw [sts_len]; omega) (fun _ _ => rfl)
  have i1 : ∀ {p q t : Pos}, Ev G (n + 1) dIsRun.scope (iS7 w b e st (p0 :: p1 :: r) ms) (.Subscript (.Name "pieces" p) (.Constant (.int 1) 0 q) t) (.str p1) := fun {p q t} => Ev.idxL (x := .str p1) (Ev.nm rfl) Ev.cInt get_sts1 (by rw [sts_len]; omega) (fun _ _ => rfl)
  refine Ex1.ret (Ev.andT (Ev.to (Ev.cmp (a := .bool (ellM p1 p0)) (b := .bool true) (Ev.callF (by decide) rfl (EvL.cons i1 (EvL.cons i0 EvL.nil (fun _ => rfl)) (fun _ => rfl)) D.ell (by rfl) (fn_ell D.T D.ell _ _ (by omega) (by omega)) (fun _ _ => rfl)) Ev.cBool CmpV.isT rfl) (by rw [h1]))
    (Ev.to (Ev.cmp (a := .int (collI p0 p1)) (Ev.callF (by decide) rfl (EvL.cons i0 (EvL.cons i1 EvL.nil (fun _ => rfl)) (fun _ => rfl)) D.coll (by rfl) (fn_coll D.coll _ _) (fun _ _ => rfl)) Ev.cInt CmpV.eqI rfl) (by rw [h2])))
end
end Mine
namespace Mine

/-! an exception on its way: the frames' slots change, nothing else that is known -/
section
variable {M : Model} {A : Around} {E : Value → Shared → Prop} {s : Shared}

theorem note_made {base h : Heap} {env : Env} {outer : List Env} {L e : Addr} {cls : Value} {args : List Value} {Q : Unit → Shared → Prop} (hfr : A.frames = some (env :: outer)) (hf : env.frame = some L) (hkb : base.StaysIn h)
    (hl : h.FunFrames base (env :: outer)) (hx : Heap.MadeExcOf h s.heap e cls args)
    (hQ : ∀ h' t, Heap.HeldW base (env :: outer) e cls (.ref t) L h' → s.heap.UpToSlots h' → Q () { s with heap := h' }) : wpAny M A (noteFrame (.ref e) env) Q E s := by
  obtain ⟨t, he, htn, ht⟩ := hx.there
  have fresh : ∀ b, h.get? b = none → base.get? b = none := fun b hb => by
    cases hq : base.get? b with
    | none => rfl
    | some o' => have := hkb b o' hq; rw [hb] at this; cases this
  unfold noteFrame
  simp only [hf]
  refine wpAny_bind (wpAny_field he rfl (x := .none) rfl ?_)
  rw [if_neg (by decide)]
  refine wpAny_entryW (a0 := .ref t) hfr (hl.of_keeps fun b o hb _ => ⟨o, hx.keeps b o hb, rfl⟩) hf he (fun b o hb => hx.keeps b o (hkb b o hb)) (fresh e hx.new) rfl (by simp) rfl fun h' hN => ?_
  obtain ⟨k1, k2, k3, k4⟩ := hN
  exact hQ h' t ⟨k1, fresh e hx.new, k2, k3⟩ k4
theorem held_note {base : Heap} {env : Env} {l : List Env} {L e : Addr} {cls a0 : Value} {Q : Unit → Shared → Prop} (hf : env.frame = some L) (hh : Heap.HeldW base l e cls a0 L s.heap) (h : Q () s) :
    wpAny M A (noteFrame (.ref e) env) Q E s := wpAny_noteFrame_againW hf hh.2.2.2 h
theorem held_flight {base : Heap} {l : List Env} {e L : Addr} {cls a0 : Value} {Q : Unit → Shared → Prop} (R : Heap.HeldW base l e cls a0 L s.heap)
    (h : ∀ h', Heap.HeldW base l e cls a0 L h' → s.heap.UpToSlots h' → Q () { s with heap := h' }) : wpAny M A (setFlight (.ref e) (some L)) Q E s := by
  obtain ⟨hkb, hen, hl, oe, vs, T, oT, ts, he, hcls, hd, h1, hnT, hTe, hT, hdT, h3⟩ := R
  have hsz3 : 3 < ts.size := (Array.getElem?_eq_some_iff.mp h3).1
  have other : ∀ b, b ≠ T → (s.heap.update T (Obj.mapFields (·.setIfInBounds 3 ((some L).elim Value.none fun f => rawInt f)))).get? b = s.heap.get? b :=
    fun b hb => Heap.get?_update_other _ _ (Ne.symm hb)
  have noRecord : ∀ b o, s.heap.get? b = some o → (∀ vs, o.data ≠ .fields vs) → b ≠ T := fun b o hb hnf q => by
    rw [q, hT] at hb; injection hb with hb; subst hb; exact hnf ts hdT
  unfold setFlight
  refine wpAny_bind (wpAny_field he hd h1 ?_)
  rw [if_pos (show (Value.ref T != Value.none) = true from by simp)]
  refine wpAny_setField hT hdT hsz3 (h _ ⟨fun b o hbo => (other b fun q => by rw [q, hnT] at hbo; cases hbo).trans (hkb b o hbo), hen,
    hl.of_keeps fun b o hb hnf => ⟨o, (other b (noRecord b o hb hnf)).trans hb, rfl⟩, ?_⟩ fun b o hb hnf => ⟨o.slots, (other b (noRecord b o hb hnf)).trans hb⟩)
  exact ⟨oe, vs, T, _, _, (other e (Ne.symm hTe)).trans he, hcls, hd, h1, hnT, hTe, Heap.get?_update_self _ hT (Obj.isFreed_of_fields (Obj.data_mapFields hdT _)), Obj.data_mapFields hdT _, by simp [hsz3]⟩
theorem held_back {base : Heap} {env : Env} {l : List Env} {e L : Addr} {cls a0 : Value} (hf : env.frame = some L) (R : Heap.HeldW base l e cls a0 L s.heap)
    (h : ∀ h', Heap.HeldW base l e cls a0 L h' → s.heap.UpToSlots h' → E (.ref e) { s with heap := h' }) : cameBackBy M A env E (.ref e) s := by
  unfold cameBackBy
  rw [hf]
  have R' := R
  obtain ⟨hkb, hen, hl, oe, vs, T, oT, ts, he, hcls, hd, h1, hnT, hTe, hT, hdT, h3⟩ := R'
  refine wpAny_bind (wpAny_field he hd h1 ?_)
  rw [if_neg (show ¬ ((Value.ref T == Value.none) = true) from by simp)]
  exact held_flight R fun h' x1 x2 => h h' x1 x2
end

def OS (outer : List Env) (h h' : Heap) : Prop := ∀ L ∈ outer.filterMap (·.frame), ∀ o, h.get? L = some o → ∃ sl, h'.get? L = some { o with slots := sl }
theorem OS.trans {outer : List Env} {h1 h2 h3 : Heap} (x : OS outer h1 h2) (y : OS outer h2 h3) : OS outer h1 h3 := fun L hL o e =>
  let ⟨_, e1⟩ := x L hL o e; let ⟨sl, e2⟩ := y L hL _ e1; ⟨sl, e2⟩
theorem OS.of_up {outer : List Env} {base h h' : Heap} (x : h.UpToSlots h') (f : h.FunFrames base outer) : OS outer h h' := fun L hL o e => by
  obtain ⟨_, o', e', hd⟩ := f.mem hL
  rw [e] at e'; cases e'
  exact x L o e hd
theorem OS.of_keep {outer : List Env} {h h' : Heap} (x : ∀ L ∈ outer.filterMap (·.frame), ∀ o, h.get? L = some o → h'.get? L = some o) : OS outer h h' := fun L hL o e => ⟨o.slots, x L hL o e⟩
theorem ff_keep {h h' base : Heap} : ∀ {l : List Env}, h.FunFrames base l → OS l h h' → h'.FunFrames base l
  | [], _, _ => trivial
  | env :: rest, f, k => by
    obtain ⟨hk, ⟨L, o, hf, hn, ho, hd⟩, hr⟩ := f
    have hm : L ∈ (env :: rest).filterMap (·.frame) := by rw [List.filterMap_cons, hf]; exact .head _
    obtain ⟨sl, e⟩ := k L hm o ho
    refine ⟨hk, ⟨L, _, hf, hn, e, hd⟩, ff_keep hr fun L' hL' o' e' => k L' ?_ o' e'⟩
    rw [List.filterMap_cons, hf]; exact .tail _ hL'
/-- the rest of the state -/
structure GK (g0 : Nat → Prop) (s s' : Shared) : Prop where
  gsize : s.gens.size ≤ s'.gens.size
  gens : ∀ g x, ¬ g0 g → s.gens[g]? = some x → s'.gens[g]? = some x
  os : s'.os = s.os
  bare : AllBare s.gens → AllBare s'.gens
theorem GK.refl (s : Shared) : GK no s s := ⟨Nat.le_refl _, fun _ _ _ e => e, rfl, fun x => x⟩
theorem GK.trans {g0 : Nat → Prop} {s s1 s2 : Shared} (x : GK g0 s s1) (y : GK g0 s1 s2) : GK g0 s s2 :=
  ⟨Nat.le_trans x.gsize y.gsize, fun g v n e => y.gens g v n (x.gens g v n e), y.os.trans x.os, fun b => y.bare (x.bare b)⟩
theorem GK.of {W : Addr → Prop} {H : Nat → Prop} {s s' : Shared} (x : ExtG W H s s') : GK H s s' := ⟨x.gsize, x.gens, x.os, x.bare⟩
theorem GK.wide {H H' : Nat → Prop} {s s' : Shared} (x : GK H s s') (h : ∀ g, H g → H' g ∨ s.gens.size ≤ g) : GK H' s s' := ⟨x.gsize, fun g v n e => x.gens g v (fun q => (h g q).elim n fun le => by
  obtain ⟨hlt, _⟩ := Array.getElem?_eq_some_iff.mp e
  exact absurd hlt (Nat.not_lt_of_le le)) e, x.os, x.bare⟩

section
variable {G : Gc} {σ : Loc}
set_option maxHeartbeats 1000000
/-- the generator's body, whose first interval is 0 -/
theorem gen_raise (nb : NoB G) (hcm : valOf G.p ("CHAR_MAX" : Str) = some (.int 127)) {A : Around} {F : Fi} {Z : Addr → Prop} {s : Shared} {t : List Int} {base : Heap} {outer : List Env} {Q : Flow → Shared → Prop} {E : Value → Shared → Prop} (ok : OkA 0 A) (hfr : A.frames = some (F.env :: outer)) (hsc : F.sc = dGrp.scope) (ho : F.own = true) (hfrm : F.fr = some F.L)
    (st : St G F Z (fun b => b = F.L) [("grouping", .val (.list (its (0 :: t))))] s) (hkb : base.StaysIn s.heap) (hL : base.get? F.L = none) (hout : s.heap.FunFrames base outer) (hne : F.L ∉ outer.filterMap (·.frame))
    (h : ∀ e a0 s', Heap.HeldW base (F.env :: outer) e (.type "ValueError") a0 F.L s'.heap → OS outer s.heap s'.heap → GK no s s' → E (.ref e) s') : wpAny (model G.prog G.w) A (execs dGrp.body F.env) Q E s := by
  -- what has been kept up to s'
  let K : Shared → Prop := fun s' => (∀ b o, b ≠ F.L → s.heap.get? b = some o → s'.heap.get? b = some o) ∧ GK no s s'
  have K0 : ∀ s1 s2, K s1 → Ext0 s1 s2 → K s2 := fun s1 s2 k e => ⟨fun b o n q => e.keep' b o (k.1 b o n q), k.2.trans (GK.of e)⟩
  have KW : ∀ s1 s2 (W1 : Addr → Prop), K s1 → (∀ b, W1 b → b = F.L ∨ s.heap.get? b = none) → ExtG W1 no s1 s2 → K s2 := fun s1 s2 W1 k hw e => ⟨fun b o n q => e.keep b o (fun w => (hw b w).elim n fun d => by rw [d] at q; cases q) (k.1 b o n q), k.2.trans (GK.of e)⟩
  have Kn : ∀ s1, K s1 → ∀ b, s1.heap.get? b = none → b = F.L ∨ s.heap.get? b = none := fun s1 k b d => by
    by_cases e : b = F.L
    · exact .inl e
    · cases q : s.heap.get? b with
      | none => exact .inr rfl
      | some o => rw [k.1 b o e q] at d; cases d
  have k0 : K s := ⟨fun _ _ _ e => e, GK.refl s⟩
  refine wpAny_execs_cons ?_
  refine (Ex1.assign (G := G) (n := 0) (sc := dGrp.scope) (x := "last_interval") (pv := .none) Ev.cNone (.inl rfl) (fun _ => rfl)).run F A Z (fun b => b = F.L) s _ _ hsc ho ok st fun fl s1 Z1 W1 g1 o1 => ?_
  obtain ⟨rfl, st1⟩ := o1
  have w1 : ∀ b, W1 b → b = F.L ∨ s.heap.get? b = none := fun b w => g1.wg b w
  have k1 : K s1 := KW s s1 _ k0 (fun b w => .inl w) g1.ext
  refine wpAny_execs_cons ?_
  refine wpAny_For ((EvI.list (G := G) (n := 0) (sc := dGrp.scope) (xs := its (0 :: t)) (Ev.nm rfl)).run F A Z1 W1 s1 _ _ hsc ok st1 fun I s2 Z2 wr gs e2 z2 it hwr hgs => ?_) (fun _ => rfl)
  have st2 := st1.ext e2 z2
  have k2 := K0 s1 s2 k1 e2
  refine forTurn_at ?_
  show wpAny _ _ _ _ _ _
  have its' := it.its
  have it' : ItAt G 0 true I gs (.int 0 :: its t) Z2 wr s2 := it
  unfold ItAt at it'
  have hww : ∀ b, W1 b → ¬ wr b := fun b w q => by
    obtain ⟨o, e⟩ := st1.wlt b w
    rw [hwr b q] at e; cases e
  have h0w : ∀ b, wr b → F.h0.get? b = none := fun b q => by
    cases e : F.h0.get? b with
    | none => rfl
    | some o => have := hwr b q; rw [st1.hk b o e] at this; cases this
  refine it'.2 s2 Z2 (Kp.refl st2.bs) (fun _ z => z) its'.apart z2.lt A _ _ ok fun v s3 Z3 wr3 e3 z3 r3 it3 hwr3 => ⟨it3.its.plain, ?_⟩
  have st3 : St G F Z3 W1 _ s3 := st2.step e3 z3 hww its'.apart h0w (noTrue ho)
  have k3 : K s3 := ⟨fun b o n q => e3.keep b o (fun w => by
      have := hwr b w
      rw [k1.1 b o n q] at this; cases this) (k2.1 b o n q), ⟨Nat.le_trans k2.2.gsize e3.gsize, fun g x _ e => e3.gens g x (fun q => by have := hgs g q; have lt := (Array.getElem?_eq_some_iff.mp e).1; have := k1.2.gsize; omega) (k2.2.gens g x id e), e3.os.trans k2.2.os, fun b => e3.bare (k2.2.bare b)⟩⟩
  refine (AsV.name (sc := dGrp.scope) (own := none) (pv := .int 0) (.inl rfl)).run F _ Z3 W1 s3 v _ _ hsc ho ok.1 st3 r3 fun s4 g4 st4 => ?_
  have k4 : K s4 := KW s3 s4 _ k3 (fun b w => w1 b w) g4.ext
  have st5 := st4.weak (τ := [("interval", .val (.int 0)), ("last_interval", .val .none), ("grouping", .val (.list (its (0 :: t))))]) (subL.out ⟨rfl, rfl, rfl, trivial⟩)
  refine wpAny_execs_cons (wpAny_If ((EvT.cmp (a := .int 0) (b := .int 127) (Ev.nm rfl) (Ev.const rfl (by decide) hcm fun v hv => reads_int hv) CmpV.eqI rfl).run F _ Z3 W1 s4 _ _ hsc ok st5 fun s5 Z5 e5 z5 => ?_))
  rw [if_neg (by decide)]
  have st6 := st5.ext e5 z5
  have k5 := K0 s4 s5 k4 e5
  refine wpAny_execs_nil (wpAny_execs_cons (wpAny_If ((EvT.cmp (a := .int 0) (b := .int 0) (Ev.nm rfl) Ev.cInt CmpV.eqI rfl).run F _ Z5 W1 s5 _ _ hsc ok st6 fun s6 Z6 e6 z6 => ?_)))
  rw [if_pos (by decide)]
  have st7 := st6.ext e6 z6
  have k6 := K0 s5 s6 k5 e6
  refine wpAny_execs_cons (wpAny_If ((EvT.cmp (a := .none) (b := .none) (Ev.nm rfl) Ev.cNone (CmpV.is rfl) rfl).run F _ Z6 W1 s6 _ _ hsc ok st7 fun s7 Z7 e7 z7 => ?_))
  rw [if_pos (by decide)]
  have st8 := st7.ext e7 z7
  have k7 := K0 s6 s7 k6 e7
  refine wpAny_execs_cons (PyProof.Rows.Raise_madeB PySem.F.excCall_ValueError PySem.F.excRaise_ValueError ok.1 (evBuiltin (sc := dGrp.scope) rfl nb (by decide) rfl (by decide) (by decide) hsc st8 ⟨rfl, ?_⟩))
  refine (EvL.cons (Ev.cStr rfl) EvL.nil (fun _ => rfl) : EvL G 0 dGrp.scope _ _ [.str _]).run F _ Z7 W1 s7 _ _ _ hsc ok st8 fun vs s8 Z8 e8 z8 r8 => ⟨by rw [r8.length, sizeLine_eq]; decide, fun h' e mx => ?_⟩
  have k8 := K0 s7 s8 k7 e8
  have st9 := st8.ext e8 z8
  have os8 : OS outer s.heap s8.heap := OS.of_keep fun L hL o q => k8.1 L o (fun d => hne (d ▸ hL)) q
  have ff8 : s8.heap.FunFrames base (F.env :: outer) := by
    obtain ⟨m, hm⟩ := st9.ns
    exact Heap.FunFrames.cons (by rw [show F.env.scope.kind = _ from st9.kind]; decide) hfrm hm hL (ff_keep hout os8)
  have hkb8 : base.StaysIn s8.heap := fun b o q => k8.1 b o (fun d => by rw [d, hL] at q; cases q) (hkb b o q)
  refine note_made hfr hfrm hkb8 ff8 (Heap.MadeExc.of mx) fun h2 tt hh up => ?_
  refine held_back hfrm hh fun h3 hh3 up3 => ?_
  have ff1 : h'.FunFrames base outer := (ff_keep hout os8).of_keeps fun b o q _ => ⟨o, mx.keeps b o q, rfl⟩
  have o1 : OS outer s8.heap h' := OS.of_keep fun L _ o q => mx.keeps L o q
  have o2 : OS outer h' h2 := OS.of_up up ff1
  have o3 : OS outer h2 h3 := OS.of_up up3 (ff_keep ff1 o2)
  exact h e _ _ hh3 (os8.trans (o1.trans (o2.trans o3))) ⟨k8.2.gsize, k8.2.gens, k8.2.os, k8.2.bare⟩
end
end Mine
open PyProof.Rows.TI (gone gone_get gone_none gone_some)
namespace Mine

theorem sub_stop : isSubtype (.type "ValueError") (.type "StopIteration") = Pure.pure false := by rw [isSubtype_type]; kernel_rfl
theorem held_leaves {M : Model} {A : Around} {E : Value → Shared → Prop} {s : Shared} {base : Heap} {env : Env} {outer : List Env} {L e : Addr} {cls a0 : Value} {Q : Unit → Shared → Prop} (hf : env.frame = some L)
    (hh : Heap.HeldW base (env :: outer) e cls a0 L s.heap) (hQ : ∀ h', Heap.FlyingW base outer e cls a0 h' → s.heap.UpToSlots h' → Q () { s with heap := h' }) : wpAny M A (leaving env (.ref e)) Q E s := by
  unfold leaving
  refine wpAny_bind (wpAny_noteFrame_againW hf hh.2.2.2 ?_)
  refine wpAny_landsW hh fun h' hfl up => ?_
  obtain ⟨k1, k2, ⟨_, _, k3⟩, k4⟩ := hfl
  exact hQ h' ⟨k1, k2, k3, k4⟩ up
theorem GK.setGen (s : Shared) (g : Nat) (x : GenState) (hb : x.bare = true) : GK (fun k => k = g) s (s.setGen g x) := GK.of (ExtG.setGen s g x hb)

section
variable {prog : Program} {w : World} {A : Around} {E : Value → Shared → Prop} {s : Shared}
theorem over_in1 {body : List Stmt} {env : Env} (ok : OkA 1 A) : OkA 0 (A.in1.over (.func body env) []) := by
  obtain ⟨h1, h2, h3⟩ := ok
  refine ⟨h1, ?_, ?_⟩
  · show A.depth + 0 + (Code.func body env).weight + 0 < 1000
    have : (Code.func body env).weight = 1 := rfl
    omega
  · show A.units + 1 + 0 + (Code.func body env).cUnits + 8 * 0 + 100 < 9900
    have : (Code.func body env).cUnits = 3 := rfl
    omega
theorem frames_in1 {body : List Stmt} {env : Env} {outer : List Env} (h : A.frames = some outer) : (A.in1.over (.func body env) []).frames = some (env :: outer) := by
  show pushEnvs [env] (pushEnvs [] A.in1.frames) = _
  rw [show A.in1.frames = some outer from by first | exact h | (show pushEnvs [] A.frames = _; rw [h]; rfl)]
  rfl
/-- a fresh generator whose body raises -/
theorem next_raise {a g : Nat} {body : List Stmt} {env : Env} {L : Addr} {base : Heap} {outer : List Env} {Q : Option Value → Shared → Prop} (ok : OkA 1 A) (hl : s.heap.NoLimit) (hg : s.heap.IsGen a g) (hgb : base.get? a = s.heap.get? a)
    (hgs : s.gens[g]? = some (.fresh (.func body env))) (hf : env.frame = some L)
    (hbody : ∀ (Q : Flow → Shared → Prop) (E : Value → Shared → Prop), (∀ e a0 s', Heap.HeldW base (env :: outer) e (.type "ValueError") a0 L s'.heap → OS outer s.heap s'.heap → GK no (s.setGen g .running) s' → E (.ref e) s') →
      wpAny (model prog w) (A.in1.over (.func body env) []) (execs body env) Q E (s.setGen g .running))
    (hE : ∀ e a0 s', Heap.FlyingW base outer e (.type "ValueError") a0 s'.heap → OS outer s.heap s'.heap → GK (fun k => k = g) s s' → E (.ref e) s') :
    wpAny (model prog w) A (pyNext (.ref a)) Q E s := by
  have hh := ok.1
  have hroom : A.depth < recursionLimit := by have := ok.2.1; show A.depth < 1000; omega
  have hgs2 := hgs
  unfold pyNext
  refine wpAny_bind (wpAny_attempt (wpAny_callSpecial?_slot (name := Str.ofString "__next__") hg.typeIs slot_gen_next
    (wpAny_call_entry slot_gen_next hg.typeIs entry_gen_next ?_ (args_gen_next _))))
  show wpAny _ A.in1 (Builtin.Generator.genWake (.ref a) (.send .none)) _ _ s
  unfold Builtin.Generator.genWake
  refine wpAny_bind (wpAny_holding (wpAny_genNumber hg (wpAny_bind (wpAny_genState hgs ?_))))
  refine wpAny_bind (wpAny_roomToWake hl hroom ?_)
  show wpAny _ A.in1 (.resume g (.send .none) [] _) _ _ s
  refine wpAny_resumeQ (n := 0) (Y := fun _ _ _ _ _ => False) (R := fun n s₀ r s1 => ∃ e a0, r = .error (.ref e) ∧ Heap.FlyingW base outer e (.type "ValueError") a0 s1.heap ∧ OS outer s.heap s1.heap ∧ GK no (s.setGen g .running) s1) hgs ⟨rfl, ?_⟩ (fun x s₁ hx => ?_) (fun v s₁ gs' hb hv => hv.elim)
  · refine seg_func (seg_wrap (hbody _ _ fun e a0 s' hh os gk => ?_))
    refine seg_wrap (held_leaves hf hh fun h' fl up => ?_)
    refine seg_end (.error (.ref e)) ⟨e, a0, rfl, fl, os.trans (OS.of_up (base := base) up hh.2.2.1.2.2), ⟨gk.gsize, gk.gens, gk.os, gk.bare⟩⟩
  · obtain ⟨e, a0, rfl, fl, os, gk⟩ := hx
    have ty : ∀ x, ({ s₁.setGen g x with heap := s₁.heap } : Shared).TypeIs (.ref e) "ValueError" := fun x => fl.there
    show wpAny _ A.in1 (Builtin.Generator.genLeft (.ref a) (.ref e)) _ _ _
    obtain ⟨o, nm, qn, ho, hc, hd⟩ := hg
    have hb : ∃ o', s₁.heap.get? a = some o' ∧ o' = o := ⟨o, fl.1 a o (hgb.trans ho), rfl⟩
    obtain ⟨_, ha, rfl⟩ := hb
    unfold Builtin.Generator.genLeft
    refine wpAny_bind ?_
    unfold Builtin.Generator.madeByALambda
    refine wpAny_bind (wpAny_load ha ?_)
    refine wpAny_pure ?_
    refine wpAny_bind (wpAny_isInstance (T := "ValueError") (b := false) fl.there sub_stop ?_)
    rw [hc, hd.1]
    rw [if_neg (by simp)]
    show wpAny _ A.in1 (Builtin.Generator.genEscaped (.ref e)) _ _ _
    unfold Builtin.Generator.genEscaped
    refine wpAny_bind (wpAny_isInstance (T := "ValueError") (b := false) fl.there sub_stop ?_)
    refine wpAny_bind (wpAny_throw ?_)
    refine wpAny_bind (wpAny_isInstance (T := "ValueError") (b := false) fl.there sub_stop ?_)
    refine wpAny_throw (hE e a0 _ fl os ?_)
    have e0 := GK.setGen s g .running rfl
    have e1 : GK (fun k => k = g) s s₁ := e0.trans (gk.wide fun g h => h.elim)
    exact e1.trans (GK.setGen s₁ g .finished rfl)
end
end Mine
/-! def_enter stands in Jnf8, gen_made in JnfI -/
open PyProof.Rows.TI (gone gone_get gone_none gone_some)
namespace Mine

theorem ff_base {h b1 b2 : Heap} : ∀ {l : List Env}, h.FunFrames b1 l → (∀ L ∈ l.filterMap (·.frame), b2.get? L = none) → h.FunFrames b2 l
  | [], _, _ => trivial
  | env :: rest, f, k => by
    obtain ⟨hk, ⟨L, o, hf, hn, ho, hd⟩, hr⟩ := f
    refine ⟨hk, ⟨L, o, hf, k L ?_, ho, hd⟩, ff_base hr fun L' hL' => k L' ?_⟩
    · rw [List.filterMap_cons, hf]; exact .head _
    · rw [List.filterMap_cons, hf]; exact .tail _ hL'
theorem OS.tl {env : Env} {outer : List Env} {h h' : Heap} (x : OS (env :: outer) h h') : OS outer h h' := fun L hL => x L (by
  rw [List.filterMap_cons]
  cases env.frame with
  | none => exact hL
  | some _ => exact .tail _ hL)
theorem mem_frames {env : Env} {outer : List Env} {L : Addr} (hf : env.frame = some L) {b : Addr} : b ∈ (env :: outer).filterMap (·.frame) ↔ b = L ∨ b ∈ outer.filterMap (·.frame) := by
  rw [List.filterMap_cons, hf, List.mem_cons]

theorem ve_base : isSubtype (.type "ValueError") (.type "BaseException") = Pure.pure true := by rw [isSubtype_type]; kernel_rfl
theorem ve_self : isSubtype (.type "ValueError") (.type "ValueError") = Pure.pure true := by rw [isSubtype_type]; kernel_rfl
theorem ve_meta : isSubtype (.type ((Manifest.find? "ValueError").elim "type" fun x => x.metatype)) (.type "tuple") = Pure.pure false := by
  rw [show (Manifest.find? "ValueError").elim "type" (fun x => x.metatype) = "type" from by kernel_rfl, isSubtype_type]; kernel_rfl

section
variable {G : Gc}
set_option maxHeartbeats 2000000
theorem call_refused (nb : NoB G) (hcm : valOf G.p ("CHAR_MAX" : Str) = some (.int 127)) (hr : dRefused ∈ recsOf G.p) (hg : dGrp ∈ recsOf G.p) {f : Addr} (hf : G.mg ("_law_refused" : Str) = some (.ref f))
    {A : Around} {Z : Addr → Prop} {s : Shared} {v : Value} {k : Int} {outer : List Env} {Q : Value → Shared → Prop} {E : Value → Shared → Prop} (ok : OkA 10 A) (hfr : A.frames = some outer)
    (hff : s.heap.FunFrames (gone s.heap (outer.filterMap (·.frame))) outer) (hbo : ∀ L ∈ outer.filterMap (·.frame), G.base.get? L = none) (bs : Bs G s) (zl : Liv Z s.heap) (r : Rep Z s.heap (.int k) v)
    (hQ : ∀ s', OS outer s.heap s'.heap → (∀ b o, b ∉ outer.filterMap (·.frame) → s.heap.get? b = some o → s'.heap.get? b = some o) → GK no s s' → Q (.bool true) s') : wpAny (model G.prog G.w) A (call (.ref f) [v]) Q E s := by
  refine def_enter (d := dRefused) (x := "_law_refused") (ns := ["step"]) (xs := [.int k]) G.base hr (by rfl) (by intro pm code doc vs hv; (apply len1 hv; exact fun _ => rfl)) (by decide) (by decide +kernel) (by decide +kernel) rfl rfl rfl hf
    (by have := ok.2.1; omega) bs zl ⟨v, [], rfl, r, rfl⟩ (fun _ _ e => e) bs.base fun F W s1 hsc ho hfrm hh0 hZ0 e1 hw st => ?_
  have ok1 : OkA 9 (A.deeper F.env) := OkA.deeper ok
  have fr1 : (A.deeper F.env).frames = some (F.env :: outer) := Around.frames_deeper hfr
  have dF : s.heap.get? F.L = none := hw _ st.LW
  refine wpAny_execs_cons (wpAny_Try_except ?_)
  refine wpAny_execs_cons ?_
  refine wpAny_For (gen_made (G := G) (n := 9) (sc := dRefused.scope) (σ := slots ["step"] [.int k]) (d := dGrp) (ns := ["grouping"]) (vs := [.list (its [0, k])]) (by decide) rfl
    (EvL.cons (Ev.mkL (xs := [.int 0, .int k]) (EvL.cons Ev.cInt (EvL.cons (Ev.nm rfl) EvL.nil (fun _ => rfl)) (fun _ => rfl)) (by simp)) EvL.nil (fun _ => rfl)) hg (by rfl) (fun _ _ => rfl) (by intro pm code doc vs hv; (apply len1 hv; exact fun _ => rfl)) (by decide) (by decide +kernel) (by decide +kernel) rfl rfl rfl hsc ok1 st
    fun I g Fg s3 Z3 e3 z3 isg hgs hg0 dI dL hIL _ _ _ gsc gown gfr gal gst => ?_) (fun _ => rfl)
  refine forTurn_at ?_
  have aF : ∃ o, s1.heap.get? F.L = some o := st.wlt _ st.LW
  have ls : ∀ b ∈ outer.filterMap (·.frame), ∃ o, s.heap.get? b = some o := fun b hb => let ⟨_, o, e, _⟩ := hff.mem hb; ⟨o, e⟩
  have ls1 : ∀ b ∈ outer.filterMap (·.frame), ∃ o, s1.heap.get? b = some o := fun b hb => let ⟨o, e⟩ := ls b hb; ⟨o, e1.keep' _ _ e⟩
  have nF : F.L ∉ outer.filterMap (·.frame) := fun h => by obtain ⟨o, e⟩ := ls _ h; rw [dF] at e; cases e
  have nI : I ≠ F.L := fun h => by obtain ⟨o, e⟩ := aF; rw [← h, dI] at e; cases e
  have nIo : I ∉ outer.filterMap (·.frame) := fun h => by obtain ⟨o, e⟩ := ls1 _ h; rw [dI] at e; cases e
  have nL : Fg.L ≠ F.L := fun h => by obtain ⟨o, e⟩ := aF; rw [← h, dL] at e; cases e
  have nLo : Fg.L ∉ outer.filterMap (·.frame) := fun h => by obtain ⟨o, e⟩ := ls1 _ h; rw [dL] at e; cases e
  let base := gone s3.heap (Fg.L :: F.L :: outer.filterMap (·.frame))
  have hbase : ∀ b o, b ≠ Fg.L → b ≠ F.L → b ∉ outer.filterMap (·.frame) → s3.heap.get? b = some o → base.get? b = some o := fun b o h1 h2 h3 e => (gone_get (by
    intro h; rcases List.mem_cons.mp h with h | h
    · exact h1 h
    · rcases List.mem_cons.mp h with h | h
      · exact h2 h
      · exact h3 h)).trans e
  have kb : ∀ b o, base.get? b = some o → s3.heap.get? b = some o := fun b o e => (gone_some e).2
  have bL : base.get? Fg.L = none := gone_none (.head _)
  have bF : base.get? F.L = none := gone_none (.tail _ (.head _))
  have bo : ∀ L ∈ outer.filterMap (·.frame), base.get? L = none := fun L h => gone_none (.tail _ (.tail _ h))
  have st3 := st.ext e3 z3
  have e13 := e1.trans' e3
  have ffo : s3.heap.FunFrames base outer := (ff_base hff bo).of_keeps fun b o q _ => ⟨o, e13.keep' b o q, rfl⟩
  have ff3 : s3.heap.FunFrames base (F.env :: outer) := by
    obtain ⟨m, hm⟩ := st3.ns
    exact Heap.FunFrames.cons (by rw [show F.env.scope.kind = _ from st3.kind]; decide) hfrm hm bF ffo
  have gb : ∀ b o, G.base.get? b = some o → base.get? b = some o := fun b o e => hbase b o (fun h => by rw [h] at e; have := st.base _ _ e; rw [dL] at this; cases this) (fun h => by rw [h] at e; have := bs.base _ _ e; rw [dF] at this; cases this)
    (fun h => by rw [hbo b h] at e; cases e) (st3.base b o e)
  refine next_raise (base := base) (outer := F.env :: outer) (L := Fg.L) (g := g) ⟨ok1.1, by have := ok1.2.1; omega, by have := ok1.2.2; omega⟩ (G.top.nolimit.keeps st3.base) isg ?_ hgs gfr (fun Q E h => ?_) (fun e a0 s4 fl os gk => ?_)
  · obtain ⟨o, _, _, q, _⟩ := isg
    exact (hbase I o hIL nI nIo q).trans q.symm
  · have stg := gst (s3.setGen g .running) (fun _ _ _ e => e) ⟨st3.base, (ExtG.setGen s3 g .running rfl).bare st3.bare⟩
    refine gen_raise nb hcm (F := Fg) (s := s3.setGen g .running) (t := [k]) (base := base) (outer := F.env :: outer) (over_in1 ⟨ok1.1, by have := ok1.2.1; omega, by have := ok1.2.2; omega⟩) (frames_in1 fr1) gsc gown gfr stg kb bL ff3 ?_ h
    intro q
    rcases (mem_frames (env := F.env) hfrm).mp q with q | q
    · exact nL q
    · exact nLo q
  · refine wpAny_looks_onW fr1 hfrm fl fun h5 hh5 up5 => ?_
    show cameBackBy _ _ F.env _ (.ref e) _
    refine held_back hfrm hh5 fun h6 hh6 up6 => ?_
    show wpAny _ _ (noteFrame (.ref e) F.env) _ _ _
    refine held_note hfrm hh6 ?_
    refine wpAny_landsW hh6 fun h7 fl7 up7 => ?_
    have gb7 : ∀ b o, G.base.get? b = some o → h7.get? b = some o := fun b o q => fl7.1 b o (gb b o q)
    refine wpAny_handleBy_builtin (X := "ValueError") (T := "ValueError") (b := true) ve_base ve_meta ve_self ?_
    refine Calls.Name_function_global (env := F.env) st.kind (by show F.sc.names.lookup _ = _; rw [hsc]; rfl)
      (Calls.loadGlobal_builtin (env := F.env) (G.top.g.keeps gb7) (nb _ (by decide)) (G.top.b.keeps gb7) ((G.top.builtins _ (by decide)).trans rfl) ⟨rfl, fl7.there, ?_⟩) (by decide)
    rw [if_pos rfl]
    refine lands_againW fl7 fun h8 fl8 up8 => ?_
    refine wpAny_execs_cons (wpAny_Return_some (wpAny_Constant_bool ⟨_, rfl, hQ _ ?_ ?_ ?_⟩))
    · have o13 : OS outer s.heap s3.heap := OS.of_keep fun L _ o q => e13.keep' L o q
      exact o13.trans (os.tl.trans ((OS.of_up up5 fl.2.2.1.2.2).trans ((OS.of_up up6 hh5.2.2.1.2.2).trans ((OS.of_up up7 hh6.2.2.1.2.2).trans (OS.of_up up8 fl7.2.2.1.2.2)))))
    · intro b o hb q
      exact fl8.1 b o (hbase b o (fun h => by rw [h] at q; have := e1.keep' _ _ q; rw [dL] at this; cases this) (fun h => by rw [h] at q; rw [dF] at q; cases q) hb (e13.keep' b o q))
    · have g1 : GK no s s3 := GK.of e13
      refine ⟨Nat.le_trans g1.gsize gk.gsize, fun x y _ e => gk.gens x y (fun q => ?_) (g1.gens x y id e), gk.os.trans g1.os, fun b => gk.bare (g1.bare b)⟩
      have lt := (Array.getElem?_eq_some_iff.mp e).1
      have := e1.gsize
      omega
end
end Mine
open PyProof.Rows.TI (gone gone_get gone_none gone_some)
namespace Mine

abbrev frs (l : List Env) : List Addr := l.filterMap (·.frame)
/-- the frames below -/
structure Ou (G : Gc) (outer : List Env) (Z W : Addr → Prop) (s : Shared) : Prop where
  ff : s.heap.FunFrames G.base outer
  nz : ∀ L ∈ frs outer, ¬ Z L
  nw : ∀ L ∈ frs outer, ¬ W L
theorem Ou.live {G : Gc} {outer : List Env} {Z W : Addr → Prop} {s : Shared} (x : Ou G outer Z W s) : ∀ L ∈ frs outer, ∃ o, s.heap.get? L = some o := fun L h => let ⟨_, o, e, _⟩ := x.ff.mem h; ⟨o, e⟩
theorem Ou.gr {G : Gc} {outer : List Env} {Z W Z' W' : Addr → Prop} {s s' : Shared} (x : Ou G outer Z W s) (g : Gr Z W s Z' W' s') : Ou G outer Z' W' s' where
  ff := ff_keep x.ff (OS.of_keep fun L hL o e => g.ext.keep L o (x.nw L hL) e)
  nz := fun L hL z => by
    obtain ⟨o, e⟩ := x.live L hL
    rcases g.zw L z with z | w | d
    · exact x.nz L hL z
    · exact x.nw L hL w
    · rw [d] at e; cases e
  nw := fun L hL w => by
    obtain ⟨o, e⟩ := x.live L hL
    rcases g.wg L w with w | d
    · exact x.nw L hL w
    · rw [d] at e; cases e
/-- what has become of a state -/
structure Kx (outer : List Env) (s0 : Shared) (W : Addr → Prop) (s : Shared) : Prop where
  os : OS outer s0.heap s.heap
  keep : ∀ b o, b ∉ frs outer → s0.heap.get? b = some o → s.heap.get? b = some o
  gk : GK no s0 s
  wn : ∀ b, W b → s0.heap.get? b = none
theorem Kx.gr {G : Gc} {outer : List Env} {Z W Z' W' : Addr → Prop} {s0 s s' : Shared} (x : Kx outer s0 W s) (u : Ou G outer Z W s) (g : Gr Z W s Z' W' s') : Kx outer s0 W' s' where
  os := x.os.trans (OS.of_keep fun L hL o e => g.ext.keep L o (u.nw L hL) e)
  keep := fun b o h e => g.ext.keep b o (fun w => by rw [x.wn b w] at e; cases e) (x.keep b o h e)
  gk := x.gk.trans (GK.of g.ext)
  wn := fun b w => by
    rcases g.wg b w with w | d
    · exact x.wn b w
    · cases e : s0.heap.get? b with
      | none => rfl
      | some o =>
        by_cases h : b ∈ frs outer
        · obtain ⟨_, e'⟩ := x.os b h o e
          rw [d] at e'; cases e'
        · rw [x.keep b o h e] at d; cases d
/-- slots of frames have changed -/
structure Sl (fs : List Env) (s s' : Shared) : Prop where
  os : OS fs s.heap s'.heap
  keep : ∀ b o, b ∉ frs fs → s.heap.get? b = some o → s'.heap.get? b = some o
  gk : GK no s s'
theorem Sl.any {fs : List Env} {s s' : Shared} (x : Sl fs s s') {b : Addr} {o : Obj} (e : s.heap.get? b = some o) : ∃ sl, s'.heap.get? b = some { o with slots := sl } := by
  by_cases h : b ∈ frs fs
  · exact x.os b h o e
  · exact ⟨o.slots, x.keep b o h e⟩
theorem Sl.up {fs : List Env} {s s' : Shared} (x : Sl fs s s') : s.heap.UpToSlots s'.heap := fun b o e _ => x.any e

section
variable {G : Gc} {F : Fi} {Z W : Addr → Prop} {σ : Loc} {s s' : Shared} {outer : List Env}
theorem St.os (st : St G F Z W σ s) (ou : Ou G outer Z W s) (hfrm : F.fr = some F.L) (ho : F.own = true) (h0o : ∀ L ∈ frs outer, F.h0.get? L = none) (x : Sl (F.env :: outer) s s') : St G F Z W σ s' ∧ Ou G outer Z W s' := by
  have hm : ∀ b, b ∈ frs (F.env :: outer) ↔ b = F.L ∨ b ∈ frs outer := fun b => mem_frames (env := F.env) hfrm
  have hkeep : ∀ b o, b ≠ F.L → b ∉ frs outer → s.heap.get? b = some o → s'.heap.get? b = some o := fun b o h1 h2 e => x.keep b o (fun h => ((hm b).mp h).elim h1 h2) e
  have hz : ∀ b o, Z b → s.heap.get? b = some o → s'.heap.get? b = some o := fun b o z e => hkeep b o (fun h => st.disj b z (h ▸ st.LW)) (fun h => ou.nz b h z) e
  have cellv : ∀ {c : Addr} {v : Option Value}, s.heap.IsCell c v → s'.heap.IsCell c v := fun ⟨o, e, h⟩ => let ⟨sl, e'⟩ := x.any e; ⟨_, e', h⟩
  have hv : ∀ {y : Str} {v : Value}, VarAt F s.heap y v → VarAt F s'.heap y v := fun r => by
    rcases r with ⟨k, m, hn, hmv⟩ | ⟨k, c, hc, hv⟩
    · exact .inl ⟨k, m, x.up.ns hn, hmv⟩
    · exact .inr ⟨k, c, hc, cellv hv⟩
  obtain ⟨m, hn⟩ := st.ns
  refine ⟨{ st with
    hk := fun b o e => hkeep b o (fun h => by rw [h, st.wn0 _ st.LW] at e; cases e) (fun h => by rw [h0o b h] at e; cases e) (st.hk b o e)
    bare := x.gk.bare st.bare
    zlt := fun b z => let ⟨o, e⟩ := st.zlt b z; ⟨o, hz b o z e⟩
    wlt := fun b w => let ⟨o, e⟩ := st.wlt b w; let ⟨sl, e'⟩ := x.any e; ⟨_, e'⟩
    ns := ⟨m, x.up.ns hn⟩
    cells := fun y ho hy => let ⟨c, v, h1, h2, h3⟩ := st.cells y ho hy; ⟨c, v, h1, cellv h2, h3⟩
    vals := fun y pv hy => let ⟨v, h1, h2⟩ := st.vals y pv hy; ⟨v, hv h1, h2.mono (fun _ z => z) hz⟩
    owns := by
      obtain ⟨ad, h1, h2⟩ := st.owns
      refine ⟨ad, fun y xs hy => ?_, h2⟩
      obtain ⟨hw, hva, vs, hp, hr⟩ := h1 y xs hy
      refine ⟨hw, hv hva, vs, ?_, hr.mono (fun _ z => z) hz⟩
      have ne := list_ne hn hp
      obtain ⟨k, e⟩ := hp
      exact ⟨k, hkeep _ _ ne (fun h => ou.nw _ h hw) e⟩ }, ⟨ff_keep ou.ff x.os.tl, ou.nz, ou.nw⟩⟩

theorem run_next {n : Nat} {A : Around} {τ : Loc} {st : Stmt} {ss : List Stmt} {s0 : Shared} {Q : Flow → Shared → Prop} {E : Value → Shared → Prop} {sc : Scope} (hsc : F.sc = sc) (h1 : Ex1 G n sc σ st (.next τ)) (ho : F.own = true) (ok : OkA n A) (t : St G F Z W σ s) (u : Ou G outer Z W s) (kx : Kx outer s0 W s)
    (h : ∀ Z' W' s', St G F Z' W' τ s' → Ou G outer Z' W' s' → Kx outer s0 W' s' → wpAny (model G.prog G.w) A (execs ss F.env) Q E s') : wpAny (model G.prog G.w) A (execs (st :: ss) F.env) Q E s := by
  refine wpAny_execs_cons (h1.run F A Z W s _ _ hsc ho ok t fun fl s1 Z1 W1 g1 o1 => ?_)
  obtain ⟨rfl, st1⟩ := o1
  exact h _ _ _ st1 (u.gr g1) (kx.gr u g1)
end
end Mine
open PyProof.Rows.TI (gone gone_get gone_none gone_some)
namespace Mine

section
variable {G : Gc} {n : Nat}
/-- a def of the text is called by its name -/
theorem call_at {sc : Scope} {σ : Loc} {x : Str} {d : DefRec} {e : Expr} {es : List Expr} {xs : List PV} {p pos : Pos} (hd : (x == ("__debug__" : Str)) = false)
    (hk : sc.names.lookup x = some .globalImplicit) (h1 : EvL G n sc σ (e :: es) xs) (hm : d ∈ recsOf G.p) (hx : d.name = x)
    (he : ∀ env pos, backTo pos (starEach (e :: es) env) = (false, eval e env) :: backTo pos (starEach es env)) {F : Fi} {A : Around} {Z W : Addr → Prop} {s : Shared} {Q : Value → Shared → Prop} {E : Value → Shared → Prop}
    (hsc : F.sc = sc) (ok : OkA n A) (st : St G F Z W σ s)
    (h : ∀ a vs s1 Z1, G.mg x = some (.ref a) → Ext0 s s1 → ZG Z s Z1 s1 → Reps Z1 s1.heap xs vs → wpAny (model G.prog G.w) A (call (.ref a) vs) Q E s1) : wpAny (model G.prog G.w) A (eval (.Call (.Name x p) (e :: es) [] pos) F.env) Q E s := by
  obtain ⟨a, o, pm, code, doc, ha, ho, hdat, hcd⟩ := G.top.fn d hm
  rw [hx] at ha
  refine wpAny_Call_NameR (evGlobal hk ha hd hsc st ?_)
  refine Calls.callWith_function (o := o) (fd := Calls.docDef d.name d.params d.body d.scope pm code doc) ?_
  rw [he]
  refine Calls.evalArgs_plain ?_
  rw [← he]
  refine h1.run F A Z W s _ _ pos hsc ok st fun vs s1 Z1 e1 z1 r1 => ?_
  refine ⟨⟨e1.keep' _ _ (st.base _ _ ho), hdat⟩, ?_⟩
  exact h a vs s1 Z1 ha e1 z1 r1
theorem Ou.ext {outer : List Env} {Z W Z' : Addr → Prop} {s s' : Shared} (x : Ou G outer Z W s) (e : Ext0 s s') (z : ZG Z s Z' s') : Ou G outer Z' W s' := x.gr (Gr.of e z)
theorem gk_sl {outer : List Env} {s0 s s' : Shared} {W : Addr → Prop} {env : Env} {L : Addr} (hf : env.frame = some L) (hL : s0.heap.get? L = none) (k : Kx outer s0 W s) (x : Sl (env :: outer) s s') : Kx outer s0 W s' where
  os := k.os.trans x.os.tl
  keep := fun b o h e => x.keep b o (fun hm => ((mem_frames hf).mp hm).elim (fun q => by rw [q, hL] at e; cases e) h) (k.keep b o h e)
  gk := k.gk.trans x.gk
  wn := k.wn
set_option maxHeartbeats 2000000
theorem call_isrun (D : Defs G) (hR : dRefused ∈ recsOf G.p) (hP : dPieces ∈ recsOf G.p) (hI : dIsRun ∈ recsOf G.p) {f : Addr} (hf : G.mg ("_law_is_run" : Str) = some (.ref f)) (w : Tx) (b e st : Nat) (hl : w.length ≤ 100) (h1 : 1 ≤ st) (h2 : b + 2 * st ≤ e) (h3 : e ≤ w.length) (hok : isRunOk w b e st = true)
    {A : Around} {Z : Addr → Prop} {s : Shared} {vs : List Value} {outer : List Env} {Q : Value → Shared → Prop} {E : Value → Shared → Prop} (ok : OkA 100 A) (hfr : A.frames = some outer)
    (hff : s.heap.FunFrames G.base outer) (hz : ∀ L ∈ frs outer, ¬ Z L) (bs : Bs G s) (zl : Liv Z s.heap) (r : Reps Z s.heap [.str w, .int b, .int e, .int st] vs)
    (hQ : ∀ s', Sl outer s s' → Q (.bool true) s') : wpAny (model G.prog G.w) A (call (.ref f) vs) Q E s := by
  refine def_enter (d := dIsRun) (x := "_law_is_run") (ns := ["word", "begin", "end", "step"]) (xs := [.str w, .int b, .int e, .int st]) G.base hI (by rfl) (by intro pm code doc vs hv; (apply len4 hv; exact fun _ _ _ _ => rfl)) (by decide) (by decide +kernel) (by decide +kernel) rfl rfl rfl hf
    (by have := ok.2.1; omega) bs zl r (fun _ _ e => e) bs.base fun F W s1 hsc ho hfrm hh0 hZ0 e1 hw t => ?_
  have ok1 : OkA 99 (A.deeper F.env) := OkA.deeper ok
  have fr1 : (A.deeper F.env).frames = some (F.env :: outer) := Around.frames_deeper hfr
  have dF : s.heap.get? F.L = none := hw _ t.LW
  have lo : ∀ L ∈ frs outer, ∃ o, s.heap.get? L = some o := fun L h => let ⟨_, o, e, _⟩ := hff.mem h; ⟨o, e⟩
  have u : Ou G outer Z W s1 := ⟨ff_keep hff (OS.of_keep fun L _ o q => e1.keep' L o q), hz, fun L h q => by obtain ⟨o, e⟩ := lo L h; rw [hw L q] at e; cases e⟩
  have kx : Kx outer s W s1 := ⟨OS.of_keep fun L _ o q => e1.keep' L o q, fun b o _ q => e1.keep' b o q, GK.of e1, hw⟩
  have ns : ∀ m, m ≤ 99 → OkA m (A.deeper F.env) := fun m hm => ⟨ok1.1, by have := ok1.2.1; omega, by have := ok1.2.2; omega⟩
  unfold isRunOk rootOk at hok
  obtain ⟨hok1, hmore⟩ := Bool.and_eq_true_iff.mp hok
  obtain ⟨hok2, hpcs⟩ := Bool.and_eq_true_iff.mp hok1
  obtain ⟨hok3, htimes⟩ := Bool.and_eq_true_iff.mp hok2
  obtain ⟨hr1, hr2⟩ := Bool.and_eq_true_iff.mp hok3
  have hr1 : ellM (slcN w b (b + st) ++ dots ++ slcN w b (b + st)) (slcN w b (b + st)) = false := by simpa using hr1
  have hr2 : ellM (dots ++ (slcN w b (b + 2 * st)).take (st + 1) ++ dots ++ slcN w b (b + st) ++ dots) (slcN w b (b + 2 * st)) = false := by simpa using hr2
  have l1 : (slcN w b (b + st)).length ≤ 100 := by have := slcN_len w b (b + st); omega
  have l2 : (slcN w b (b + 2 * st)).length ≤ 100 := by have := slcN_len w b (b + 2 * st); omega
  refine run_next (σ := iS0 w b e st) hsc (isr_0 (G := G) (n := 99) w b e st hl h1 h2 h3) ho ok1 t u kx fun Z1 W1 s2 t1 u1 k1 => ?_
  refine run_next hsc (isr_1 (G := G) (n := 98) D w b e st _ _ l1 hr1) ho ok1 t1 u1 k1 fun Z2 W2 s3 t2 u2 k2 => ?_
  refine run_next hsc (isr_2 (G := G) (n := 98) D w b e st _ _ l1 l2 (by unfold slcN; simp only [List.length_take, List.length_drop]; omega) hr2) ho ok1 t2 u2 k2 fun Z3 W3 s4 t3 u3 k3 => ?_
  refine run_next hsc (isr_3 (G := G) (n := 98) D w b e st _ _ l1 l2 htimes) ho ok1 t3 u3 k3 fun Z4 W4 s5 t4 u4 k4 => ?_
  have t4' : St G F Z4 W4 (iS0 w b e st) s5 := t4.weak (subL.out ⟨rfl, rfl, rfl, rfl, trivial⟩)
  refine wpAny_execs_cons (wpAny_If (wpAny_isTrue_BoolOp (wpAny_allTrue_Or_cons ((isr_4a (G := G) (n := 59) D (by omega) w b e st h1 h2 (by omega)).run F _ Z4 W4 s5 _ _ hsc ok1 t4' fun s6 Z5 e6 z5 => ?_))))
  have t5 := t4'.ext e6 z5
  have u5 := u4.ext e6 z5
  have k5 : Kx outer s W4 s6 := k4.gr u4 (Gr.of e6 z5)
  show wpAny _ _ (allTrue .Or [_] F.env) _ _ _
  refine wpAny_allTrue_Or_cons (wpAny_isTrue_Not (wpAny_isTrue_value (call_at (G := G) (n := 99) (sc := dIsRun.scope) (xs := [.int st]) (by decide) rfl (EvL.cons (Ev.nm rfl) EvL.nil (fun _ => rfl)) hR (by rfl) (fun _ _ => rfl) hsc ok1 t5 fun a us s7 Z6 ha e7 z6 r7 => ?_) rfl))
  have t6 := t5.ext e7 z6
  have u6 := u5.ext e7 z6
  have k6 : Kx outer s W4 s7 := k5.gr u5 (Gr.of e7 z6)
  obtain ⟨v, us', rfl, rv, hus⟩ := r7
  have hus : us' = [] := hus
  subst hus
  have ffF : s7.heap.FunFrames G.base (F.env :: outer) := by
    obtain ⟨m, hm⟩ := t6.ns
    exact Heap.FunFrames.cons (by rw [show F.env.scope.kind = _ from t6.kind]; decide) hfrm hm (by have := t6.wn0 _ t6.LW; rw [hh0] at this; exact this) u6.ff
  refine call_refused D.T.nb D.T.cm hR D.grp ha (outer := F.env :: outer) (k := st) (ns 10 (by omega)) fr1 (ff_base ffF fun L hL => gone_none hL) (fun L hL => (ffF.mem hL).1) t6.bs t6.zlt rv fun s8 os8 keep8 gk8 => ?_
  have x8 : Sl (F.env :: outer) s7 s8 := ⟨os8, keep8, gk8⟩
  obtain ⟨t7, u7⟩ := t6.os u6 hfrm ho (fun L hL => by rw [hh0]; exact (u6.ff.mem hL).1) x8
  have k7 : Kx outer s W4 s8 := gk_sl (env := F.env) hfrm dF k6 x8
  refine wpAny_truthy_bool ?_
  show wpAny _ _ (allTrue .Or [] F.env) _ _ _
  refine wpAny_allTrue_Or_nil ?_
  rw [if_neg Bool.false_ne_true]
  refine wpAny_execs_nil ?_
  have lb : (slcN w b e).length ≤ w.length := by have := slcN_len w b e; omega
  have lm : (slcN w (b - 1) e).length ≤ w.length := by have := slcN_len w (b - 1) e; omega
  refine run_next hsc (isr_5 (G := G) (n := 58) D (by omega) hP w b e st hl h1 h2 h3) ho ok1 t7 u7 k7 fun Z8 W8 s9 t8 u8 k8 => ?_
  unfold pcsOk at hpcs
  unfold moreOk at hmore
  have bp : ∀ row : Tx, row.length ≤ 100 → (∀ p ∈ pcF row st, p.length ≤ 100) ∧ (pcF row st).length ≤ 1000 := fun row h => ⟨fun p hp => pcGo_B st 100 _ row h p hp, by have := pcGo_len st (row.length + 2) row; unfold pcF; omega⟩
  obtain ⟨bp1, bp2⟩ := bp (slcN w b e) (by omega)
  obtain ⟨bm1, bm2⟩ := bp (slcN w (b - 1) e) (by omega)
  generalize pcF (slcN w b e) st = ps at *
  match ps, hpcs with
  | p0 :: p1 :: r, hpcs =>
    obtain ⟨hp1, hp2⟩ := Bool.and_eq_true_iff.mp hpcs
    obtain ⟨hp3, hp4⟩ := Bool.and_eq_true_iff.mp hp1
    refine run_next hsc (isr_6 (G := G) (n := 98) D w b e st p0 (p1 :: r) bp1 bp2 hp3) ho ok1 t8 u8 k8 fun Z9 W9 s10 t9 u9 k9 => ?_
    refine run_next hsc (isr_7 (G := G) (n := 58) D (by omega) hP w b e st (p0 :: p1 :: r) hl h1 h2 h3) ho ok1 t9 u9 k9 fun Z10 W10 s11 t10 u10 k10 => ?_
    generalize pcF (slcN w (b - 1) e) st = ms at *
    match ms, hmore with
    | m0 :: ms', hmore =>
      refine run_next hsc (isr_8 (G := G) (n := 98) D w b e st (p0 :: p1 :: r) m0 ms' bm1 bm2 hmore) ho ok1 t10 u10 k10 fun Z11 W11 s12 t11 u11 k11 => ?_
      refine wpAny_execs_cons ((isr_9 (G := G) (n := 98) D w b e st p0 p1 r (m0 :: ms') bp1 bp2 hp4 hp2).run F _ Z11 W11 s12 _ _ hsc ho ok1 t11 fun fl s13 Z12 W12 g12 o12 => ?_)
      obtain ⟨v, rfl, rv, t12⟩ := o12
      have k12 := k11.gr u11 g12
      have : v = .bool true := by simpa [Rep] using rv
      subst this
      exact ⟨_, rfl, hQ _ ⟨k12.os, k12.keep, k12.gk⟩⟩
end
end Mine
namespace Mine

section
variable {G : Gc} {n : Nat} {σ τ κ : Loc} {sc : Scope}

theorem compTurn_in (elt t0 i0 target iter : Expr) (ifs : List Expr) (scope : Scope) (pos : Pos) (it acc : Value) (env : Env) :
    compTurn (.ListComp elt [⟨t0, i0, [], 0⟩, ⟨target, iter, ifs, 0⟩] scope pos) 1 it acc env = (do
      standAt iter.pos
      match ← pyNext it with
      | none => pure (.done .next)
      | some v =>
        letOwnedTupleGo target it v
        assign target env v
        let mut ok := true
        for c in ifs do
          if ok then ok ← isTrue c env (eval c env)
        if ok then
          (do let _ ← call (.builtin "list.append") [acc, ← eval elt env])
        again (.compLoop (.ListComp elt [⟨t0, i0, [], 0⟩, ⟨target, iter, ifs, 0⟩] scope pos) 1 it acc env)) := by rfl

theorem compLoop_in {A : Around} {env : Env} {elt t0 i0 t iter : Expr} {ifs : List Expr} {scope : Scope} {pos : Pos} {I D : Addr} {R : Result → Shared → Prop} :
    LoopRule G A env t elt ifs (.compLoop (.ListComp elt [⟨t0, i0, [], 0⟩, ⟨t, iter, ifs, 0⟩] scope pos) 1 (.ref I) (.ref D) env) I D R := by
  intro s h
  refine codeAny_of_tree ?_
  rw [Around.under_of_weight (c := .compLoop (.ListComp elt [⟨t0, i0, [], 0⟩, ⟨t, iter, ifs, 0⟩] scope pos) 1 (.ref I) (.ref D) env) rfl rfl]
  show wpAny _ A ((compTurn (.ListComp elt [⟨t0, i0, [], 0⟩, ⟨t, iter, ifs, 0⟩] scope pos) 1 (.ref I) (.ref D) env).onRaise (fun x => do noteFrame x env; theTreesLotGoes x)) _ _ s
  refine wpAny_noted ?_
  rw [compTurn_in]
  refine wpAny_bind (wpAny_standAt (wpAny_bind (wpAny_mono h (fun r s₁ h₁ => ?_) fun _ _ h' => h')))
  cases r with
  | none => exact wpAny_pure h₁
  | some v =>
    obtain ⟨p, h₁⟩ := h₁
    refine wpAny_bind (letOwned p ?_)
    refine wpAny_bind (wpAny_mono h₁ (fun _ s₂ h₂ => wpAny_bind (wpAny_mono h₂ (fun ok s₃ h₃ => ?_) fun _ _ h' => h')) fun _ _ h' => h')
    cases ok with
    | false => exact wpAny_pure ⟨rfl, h₃⟩
    | true =>
      exact wpAny_bind (wpAny_bind (wpAny_mono h₃ (fun x s₄ h₄ => wpAny_bind (wpAny_mono h₄ (fun _ s₅ h₅ => wpAny_pure (wpAny_pure ⟨rfl, h₅⟩)) fun _ _ h' => h')) fun _ _ h' => h'))

/-- what the items of two clauses give -/
inductive Comp2Ok (G : Gc) (n : Nat) (mn : List Str) (sc : Scope) (σ : Loc) (t t1 i1 : Expr) (ifs : List Expr) (elt : Expr) : List PV → List PV → Prop
  | nil : Comp2Ok G n mn sc σ t t1 i1 ifs elt [] []
  | cons {x : PV} {zs xs ys1 ys : List PV} {τ : Loc} : AsV G (some mn) sc σ t x τ → EvI G n sc τ i1 zs true → CompOk G n mn sc τ t1 ifs elt zs ys1 → zs.length ≤ 1000 → Comp2Ok G n mn sc σ t t1 i1 ifs elt xs ys → (∀ y sl, σ.lookup y = some sl → τ.lookup y = some sl) →
      Comp2Ok G n mn sc σ t t1 i1 ifs elt (x :: xs) (ys1 ++ ys)

theorem compTurn_out (elt target iter t1 i1 : Expr) (ifs : List Expr) (scope : Scope) (pos : Pos) (it acc : Value) (env : Env) :
    compTurn (.ListComp elt [⟨target, iter, [], 0⟩, ⟨t1, i1, ifs, 0⟩] scope pos) 0 it acc env = (do
      standAt iter.pos
      match ← pyNext it with
      | none => pure (.done .next)
      | some v =>
        letOwnedTupleGo target it v
        assign target env v
        let x ← eval i1 env
        standAt i1.pos
        let x ← foldedSetIterable i1 env x
        let _ ← runOwn (.compStart (.ListComp elt [⟨target, iter, [], 0⟩, ⟨t1, i1, ifs, 0⟩] scope pos) 1 (← holding [x] (pyIter x)) acc env) env
        again (.compLoop (.ListComp elt [⟨target, iter, [], 0⟩, ⟨t1, i1, ifs, 0⟩] scope pos) 0 it acc env)) := by rfl

theorem compStart_in {A : Around} {R : Result → Shared → Prop} {s : Shared} {elt t0 i0 t1 i1 : Expr} {ifs : List Expr} {scope : Scope} {pos : Pos} {it acc : Value} {env : Env}
    (h0 : codeAny (model G.prog G.w) A (.compLoop (.ListComp elt [⟨t0, i0, [], 0⟩, ⟨t1, i1, ifs, 0⟩] scope pos) 1 it acc env) R s)
    (h : wpAny (model G.prog G.w) A (pyIter it) (fun it' s' => codeAny (model G.prog G.w) A (.compLoop (.ListComp elt [⟨t0, i0, [], 0⟩, ⟨t1, i1, ifs, 0⟩] scope pos) 1 it' acc env) R s')
      (notedBy (model G.prog G.w) A env fun x s' => R (.error x) s') s) :
    codeAny (model G.prog G.w) A (.compStart (.ListComp elt [⟨t0, i0, [], 0⟩, ⟨t1, i1, ifs, 0⟩] scope pos) 1 it acc env) R s := by
  refine codeAny_of_tree ?_
  show wpAny _ _ ((compStart (.ListComp elt [⟨t0, i0, [], 0⟩, ⟨t1, i1, ifs, 0⟩] scope pos) 1 it acc env).onRaise (fun x => do noteFrame x env; standAt theWindowsPlace)) _ _ s
  refine wpAny_notedAt ?_
  unfold compStart
  show wpAny _ _ (ask >>= _) _ _ s
  refine wpAny_bind (wpAny_askSetting (wpAny_ite ?_))
  split
  · first
      | exact wpAny_bind (wpAny_pure (wpAny_pure (And.intro rfl h0)))
      | exact wpAny_pure (And.intro rfl h0)
  · refine wpAny_bind (wpAny_rule ?_)
    show wpAny _ _ (standAt i1.pos >>= _) _ _ s
    exact wpAny_bind (wpAny_standAt (wpAny_bind (wpAny_mono h (fun it' s' h' => wpAny_pure (And.intro rfl h')) fun _ _ x => x)))

theorem compLoop_out {A : Around} {env : Env} {elt t iter t1 i1 : Expr} {ifs : List Expr} {scope : Scope} {pos : Pos} {I D : Addr} {R : Result → Shared → Prop} {s : Shared} (hm : A.mark none = A) (hs : ∀ env x, foldedSetIterable i1 env x = pure x)
    (h : wpAny (model G.prog G.w) A (pyNext (.ref I)) (fun r s1 => match r with
      | none => R (.ok .next) s1
      | some v => Plain s1.heap I ∧ wpAny (model G.prog G.w) A (assign t env v) (fun _ s2 =>
          wpAny (model G.prog G.w) A (eval i1 env) (fun x s3 => wpAny (model G.prog G.w) A (pyIter x) (fun it s4 =>
            codeAny (model G.prog G.w) A (.compStart (.ListComp elt [⟨t, iter, [], 0⟩, ⟨t1, i1, ifs, 0⟩] scope pos) 1 it (.ref D) env) (fun r s5 => match r with
              | .ok _ => codeAny (model G.prog G.w) A (.compLoop (.ListComp elt [⟨t, iter, [], 0⟩, ⟨t1, i1, ifs, 0⟩] scope pos) 0 (.ref I) (.ref D) env) R s5
              | .error _ => False) s4) (notedBy (model G.prog G.w) A env fun e s' => R (.error e) s') s3) (notedBy (model G.prog G.w) A env fun e s' => R (.error e) s') s2) (notedBy (model G.prog G.w) A env fun e s' => R (.error e) s') s1)
      (notedBy (model G.prog G.w) A env fun e s' => R (.error e) s') s) :
    codeAny (model G.prog G.w) A (.compLoop (.ListComp elt [⟨t, iter, [], 0⟩, ⟨t1, i1, ifs, 0⟩] scope pos) 0 (.ref I) (.ref D) env) R s := by
  refine codeAny_of_tree ?_
  rw [Around.under_of_weight (c := .compLoop (.ListComp elt [⟨t, iter, [], 0⟩, ⟨t1, i1, ifs, 0⟩] scope pos) 0 (.ref I) (.ref D) env) rfl rfl]
  show wpAny _ A ((compTurn (.ListComp elt [⟨t, iter, [], 0⟩, ⟨t1, i1, ifs, 0⟩] scope pos) 0 (.ref I) (.ref D) env).onRaise (fun x => do noteFrame x env; theTreesLotGoes x)) _ _ s
  refine wpAny_noted ?_
  rw [compTurn_out]
  refine wpAny_bind (wpAny_standAt (wpAny_bind (wpAny_mono h (fun r s₁ h₁ => ?_) fun _ _ h' => h')))
  cases r with
  | none => exact wpAny_pure h₁
  | some v =>
    obtain ⟨p, h₁⟩ := h₁
    refine wpAny_bind (letOwned p ?_)
    refine wpAny_bind (wpAny_mono h₁ (fun _ s₂ h₂ => wpAny_bind (wpAny_mono h₂ (fun x s₃ h₃ => ?_) fun _ _ h' => h')) fun _ _ h' => h')
    refine wpAny_bind (wpAny_standAt ?_)
    rw [hs]
    refine wpAny_bind (wpAny_pure ?_)
    refine wpAny_bind (wpAny_holding (wpAny_mono h₃ (fun it s₄ h₄ => ?_) fun _ _ h' => h'))
    refine wpAny_bind (wpAny_runOwn ?_)
    rw [hm]
    refine codeAny_mono h₄ fun r s₅ h₅ => ?_
    cases r with
    | ok _ => exact wpAny_pure ⟨rfl, h₅⟩
    | error _ => exact h₅.elim

/-- the outer loop -/
theorem comp_out {elt t iter t1 i1 : Expr} {ifs : List Expr} {scope : Scope} {pos : Pos} {F : Fi} {A : Around} {I D : Addr} {gs : Nat → Prop} {R : Result → Shared → Prop} {mn : List Str} (hsc : F.sc = sc) (hown : F.own = false) (hmn : ∀ x ∈ mn, x ∈ F.mine) (ok : OkA n A) (hs1 : ∀ env x, foldedSetIterable i1 env x = pure x) :
    ∀ {xs ys : List PV}, Comp2Ok G n mn sc σ t t1 i1 ifs elt xs ys → ∀ (Z W Zi wr : Addr → Prop) (s : Shared) (accs : List PV) (vs : List Value), St G F Z W σ s → ItAt G n true I gs xs Zi wr s → (∀ b, Zi b → Z b) → (∀ b, Z b → ¬ wr b) → (∀ b, W b → ¬ wr b) →
      (∀ b, wr b → F.h0.get? b = none) → (∀ x c, F.cells.lookup x = some c → (∃ o, s.heap.get? c = some o) ∧ ¬ wr c ∧ c ≠ D) → ¬ wr D → ¬ Z D → ¬ W D → F.h0.get? D = none → s.heap.PlainList D vs.toArray → Reps Z s.heap accs vs → accs.length + 1000 * xs.length ≤ 1000000 →
      (∀ s' Z' ws, GrI Z W (fun b => wr b ∨ b = D) gs s Z' W s' → ¬ Z' D → St G F Z' W σ s' → s'.heap.PlainList D ws.toArray → Reps Z' s'.heap (accs ++ ys) ws → R (.ok .next) s') →
      codeAny (model G.prog G.w) A (.compLoop (.ListComp elt [⟨t, iter, [], 0⟩, ⟨t1, i1, ifs, 0⟩] scope pos) 0 (.ref I) (.ref D) F.env) R s := by
  have hm : A.mark none = A := by
    have := ok.1
    cases A; simp only [Around.mark] at *; rw [this]; rfl
  intro xs ys hc
  induction hc with
  | nil =>
    intro Z W Zi wr s accs vs st it hzi hz hw h0 hcl hwD hzD hWD hD0 hp hr hlen h
    refine compLoop_out hm hs1 ?_
    unfold ItAt at it
    refine it.2 s (Kp.refl st.bs) rfl A _ _ ok fun s1 e1 => ?_
    have z1 : ZG Z s Z s1 := ⟨fun _ z => z, fun _ z => .inl z, fun b z => let ⟨o, q⟩ := st.zlt b z; ⟨o, e1.keep b o (hz b z) q⟩⟩
    have st1 : St G F Z W σ s1 := st.step e1 z1 hw hz h0 fun _ y c hy => (hcl y c hy).2.1
    obtain ⟨k, hp⟩ := hp
    refine h s1 Z vs (GrI.it (e1.wide (fun b w => .inl (.inl w)) (fun _ h => .inl h)) z1) hzD st1 ⟨k, e1.keep _ _ hwD hp⟩ ?_
    rw [List.append_nil]
    exact hr.mono (fun _ z => z) fun b o z e => e1.keep b o (hz b z) e
  | @cons x zs xs ys1 ys τ ha hi hin hzl hrest hsub ih =>
    intro Z W Zi wr s accs vs st it hzi hz hw h0 hcl hwD hzD hWD hD0 hp hr hlen h
    refine compLoop_out hm hs1 ?_
    unfold ItAt at it
    refine it.2 s Z (Kp.refl st.bs) hzi hz st.zlt A _ _ ok fun v s1 Z1 wr1 e1 z1 r1 it1 hwr1 => ?_
    have its1 := it1.its
    refine ⟨its1.plain, ?_⟩
    have lD : ∃ o, s.heap.get? D = some o := let ⟨k, e⟩ := hp; ⟨_, e⟩
    have hwD1 : ¬ wr1 D := fun q => (hwr1 D q).elim hwD fun d => by obtain ⟨o, e⟩ := lD; rw [d] at e; cases e
    have hw1 : ∀ b, W b → ¬ wr1 b := fun b wb q => (hwr1 b q).elim (hw b wb) fun d => by obtain ⟨o, e⟩ := st.wlt b wb; rw [d] at e; cases e
    have hzD1 : ¬ Z1 D := fun q => (z1.new D q).elim hzD fun d => by obtain ⟨o, e⟩ := lD; rw [d] at e; cases e
    have hcl1 : ∀ x c, F.cells.lookup x = some c → (∃ o, s1.heap.get? c = some o) ∧ ¬ wr1 c ∧ c ≠ D := fun x c hx => by
      obtain ⟨⟨o, e⟩, h1, h2⟩ := hcl x c hx
      exact ⟨⟨o, e1.keep _ _ h1 e⟩, fun q => (hwr1 c q).elim h1 fun d => (by rw [d] at e; cases e), h2⟩
    have st1 : St G F Z1 W σ s1 := st.step e1 z1 hw hz h0 fun _ y c hy => (hcl y c hy).2.1
    have g1 : GrI Z W (fun b => wr b ∨ b = D) gs s Z1 W s1 := GrI.it (e1.wide (fun b w => .inl (.inl w)) (fun _ h => .inl h)) z1
    have h01 : ∀ b, wr1 b → F.h0.get? b = none := fun b q => by
      rcases hwr1 b q with w | d
      · exact h0 b w
      · cases q : F.h0.get? b with
        | none => rfl
        | some o => rw [st.hk b o q] at d; cases d
    refine ha.run F A Z1 W s1 v _ _ hsc ⟨hown, hmn⟩ ok.1 st1 r1 fun s2 g2 st2 => ?_
    refine hi.run F A Z1 W s2 _ _ hsc ok st2 fun I' s3 Z3 wr' gs' e3 z3 it' hwr' hgs' => ?_
    have st3 := st2.ext e3 z3
    have its' := it'.its
    have keepD : ∀ o, s.heap.get? D = some o → s3.heap.get? D = some o := fun o e => e3.keep' _ _ (g2.ext.keep D o hWD (e1.keep D o hwD e))
    have keepZ : ∀ b o, Z b → s.heap.get? b = some o → s3.heap.get? b = some o := fun b o z e => e3.keep' _ _ (g2.ext.keep b o (st1.disj b (z1.sub b z)) (e1.keep b o (hz b z) e))
    have live2 : ∀ b, (∃ o, s1.heap.get? b = some o) → ∃ o, s2.heap.get? b = some o := fun b ⟨o, e⟩ => by
      by_cases w : W b
      · exact st2.wlt b w
      · exact ⟨o, g2.ext.keep b o w e⟩
    have nwr' : ∀ b, (∃ o, s1.heap.get? b = some o) → ¬ wr' b := fun b l q => by
      obtain ⟨o, e⟩ := live2 b l
      rw [hwr' b q] at e; cases e
    have lD1 : ∃ o, s1.heap.get? D = some o := let ⟨o, e⟩ := lD; ⟨o, e1.keep D o hwD e⟩
    have hp3 : s3.heap.PlainList D vs.toArray := let ⟨k, e⟩ := hp; ⟨k, keepD _ e⟩
    have hr3 : Reps Z3 s3.heap accs vs := hr.mono (fun b z => z3.sub b (z1.sub b z)) keepZ
    have hc3 : ∀ x c, F.cells.lookup x = some c → ∃ o, s3.heap.get? c = some o := fun x c hx => let ⟨o, e⟩ := live2 c (hcl1 x c hx).1; ⟨o, e3.keep' _ _ e⟩
    have hzD3 : ¬ Z3 D := fun z => (z3.new D z).elim hzD1 fun d => by
      obtain ⟨o, e⟩ := live2 D lD1
      rw [d] at e; cases e
    have run : ∀ (s5 : Shared), s5 = s3 → codeAny (model G.prog G.w) A (.compLoop (.ListComp elt [⟨t, iter, [], 0⟩, ⟨t1, i1, ifs, 0⟩] scope pos) 1 (.ref I') (.ref D) F.env) (fun r s5 => match r with
              | .ok _ => codeAny (model G.prog G.w) A (.compLoop (.ListComp elt [⟨t, iter, [], 0⟩, ⟨t1, i1, ifs, 0⟩] scope pos) 0 (.ref I) (.ref D) F.env) R s5
              | .error _ => False) s5 := by
      rintro s5 rfl
      refine comp_loop (F := F) compLoop_in hsc hown hmn ok hin Z3 W Z3 wr' s5 accs vs st3 it' (fun _ z => z) its'.apart (fun b w => nwr' b (st1.wlt b w)) (fun b q => ?_) (fun x c hx => ⟨hc3 x c hx, nwr' c (hcl1 x c hx).1, (hcl1 x c hx).2.2⟩) (nwr' D lD1) hzD3 hWD hD0 hp3 hr3 (by simp only [List.length_cons] at hlen; omega) fun s4 Z4 ws g4 hzD4 st4 hp4 hr4 => ?_
      · cases q' : F.h0.get? b with
        | none => rfl
        | some o => have := hwr' b q; rw [st2.hk b o q'] at this; cases this
      · show codeAny _ _ _ _ _
        have g24 : GrI Z1 W (fun b => wr1 b ∨ b = D) gs s2 Z4 W s4 := by
          refine ⟨?_, fun b z => g4.zs b (z3.sub b z), fun b z => ?_, fun b w => .inl w⟩
          · exact (e3.any (W := fun b => W b ∨ (wr1 b ∨ b = D)) (H := gs)).trans g4.ext (fun b w => by
              rcases w with w | w | w
              · exact .inl (.inl w)
              · exact .inr (hwr' b w)
              · exact .inl (.inr (.inr w))) fun g hg => .inr (hgs' g hg)
          · rcases g4.zw b z with z | w | w | d
            · rcases z3.new b z with z | d
              · exact .inl z
              · exact .inr (.inr (.inr d))
            · exact .inr (.inl w)
            · rcases w with w | w
              · exact .inr (.inr (.inr (hwr' b w)))
              · exact .inr (.inr (.inl (.inr w)))
            · exact .inr (.inr (.inr (Ext0.dead e3 d)))
        have g14 : GrI Z1 W (fun b => wr1 b ∨ b = D) gs s1 Z4 W s4 := (GrI.fr g2).trans g24 fun b w => .inl w
        have hk4 : ∀ b o, ¬ W b → b ≠ D → s1.heap.get? b = some o → s4.heap.get? b = some o := fun b o nw nd e => g4.ext.keep b o (fun w => by
          rcases w with w | w | w
          · exact nw w
          · exact nwr' b ⟨o, e⟩ w
          · exact nd w) (e3.keep' _ _ (g2.ext.keep b o nw e))
        have kp : Kp G Z1 wr1 gs s1 s4 := ⟨st4.bs, fun b o q e => hk4 b o (fun w => q.elim (fun z => st1.disj b z w) (hw1 b w)) (fun d => by subst d; exact q.elim hzD1 hwD1) e, fun g hg => by
          have hlt := its1.glt g hg
          obtain ⟨x, hx⟩ : ∃ x, s1.gens[g]? = some x := ⟨_, Array.getElem?_eq_getElem hlt⟩
          rw [hx]
          exact g4.ext.gens g x (fun q => by have := hgs' g q; have := g2.ext.gsize; omega) (e3.gens g x (fun f => f) (g2.ext.gens g x (fun f => f) hx))⟩
        have hsz : s1.gens.size ≤ s4.gens.size := Nat.le_trans g2.ext.gsize (Nat.le_trans e3.gsize g4.ext.gsize)
        refine ih Z4 W Z1 wr1 s4 (accs ++ ys1) ws (st4.weak hsub) (it1.kp kp hsz) (fun b z => g14.zs b z) (fun b z q => ?_) hw1 h01 (fun x c hx => ⟨?_, (hcl1 x c hx).2⟩) hwD1 hzD4 hWD hD0 hp4 hr4 ?_ fun s5 Z5 us g5 hzD5 st5 hp5 hr5 => ?_
        · obtain ⟨o, e⟩ := its1.live b q
          rcases g24.zw b z with z | w | w | d
          · exact its1.apart b z q
          · exact hw1 b w q
          · rcases g4.zw b z with z' | w' | w' | d'
            · rcases z3.new b z' with z' | d'
              · exact its1.apart b z' q
              · obtain ⟨o, e⟩ := live2 b (its1.live b q); rw [d'] at e; cases e
            · exact hw1 b w' q
            · rcases w' with w' | w'
              · exact nwr' b ⟨o, e⟩ w'
              · subst w'; exact hwD1 q
            · obtain ⟨o, e⟩ := live2 b (its1.live b q); rw [e3.keep' _ _ e] at d'; cases d'
          · obtain ⟨o, e⟩ := live2 b (its1.live b q); rw [d] at e; cases e
        · obtain ⟨⟨o, e⟩, _, nd⟩ := hcl1 x c hx
          by_cases w : W c
          · exact st4.wlt c w
          · exact ⟨o, hk4 c o w nd e⟩
        · have := hin.len
          simp only [List.length_cons, List.length_append] at *
          omega
        · refine h s5 Z5 us ((g1.trans g14 fun b w => w.elim (fun w => (hwr1 b w).imp .inl id) fun e => .inl (.inr e)).trans g5 fun b w => w.elim (fun w => (hwr1 b w).imp .inl id) fun e => .inl (.inr e)) hzD5 st5 hp5 ?_
          rw [List.append_assoc] at hr5; exact hr5
    exact compStart_in (run _ rfl) (its'.self s3 (Kp.refl st3.bs) A _ _ ok (run _ rfl))

theorem comp_block2 {elt t iter t1 i1 : Expr} {ifs : List Expr} {scope : Scope} {pos : Pos} {xs ys : List PV} {F : Fi} {A : Around} {Z W : Addr → Prop} {s : Shared} {E E1 : Value → Shared → Prop} {RR : Value → Addr → Result → Shared → Prop}
    (hsc : F.sc = sc) (hown : F.own = true ∨ FreeIn σ scope) (ok : OkA n A) (st : St G F Z W σ s) (h1 : EvI G n sc σ iter xs true) (hlen : xs.length ≤ 1000) (hs1 : ∀ env x, foldedSetIterable i1 env x = pure x) (hc : Comp2Ok G n (cellNames scope) (relab scope sc) κ t t1 i1 ifs elt xs ys) (hcap : Caps sc scope σ κ) (hfree : FreeOk sc scope) (hdot : (relab scope sc).names.lookup (".0" : Str) ≠ none)
    (hkind : scope.kind = .function)
    (hRR : ∀ D C s' Z' ws, CompEnd G F Z W σ s ys D C s' Z' ws → RR (.ref D) C (.ok .next) s') :
    wpAny (model G.prog G.w) A (eval iter F.env) (fun x s1 => wpAny (model G.prog G.w) A (pyIter x) (fun it s2 => wpAny (model G.prog G.w) A (newList []) (fun acc s3 =>
      wpAny (model G.prog G.w) A (newFunctionEnv scope F.env.globals (clGo F.cells scope.names []) [] F.env.qual none .none (some F.env)) (fun cenv s4 =>
        codeAny (model G.prog G.w) A (.compStart (.ListComp elt [⟨t, iter, [], 0⟩, ⟨t1, i1, ifs, 0⟩] scope pos) 0 it acc { cenv with scope := relabel scope F.env }) (RR acc cenv.locals) s4) E s3) E s2) E s1) E s := by
  refine h1.run F A Z W s _ _ hsc ok st fun I s2 Z2 wr gs e2 z2 it hwr hgs => ?_
  have st2 := st.ext e2 z2
  have its := it.its
  refine wpAny_newObj_type (newEnv_comp ?_)
  dsimp only
  generalize hH3 : s2.heap.push { cls := .type "list", dict := none, data := .seq ([] : List Value).toArray } = H3
  have hD3 : H3.get? s2.heap.objs.size = some { cls := .type "list", dict := none, data := .seq ([] : List Value).toArray } := hH3 ▸ Heap.get?_push_size _ rfl
  have k3 : ∀ b o, s2.heap.get? b = some o → H3.get? b = some o := fun b o e => hH3 ▸ Heap.get?_push_of_some _ e
  have hC2 : s2.heap.get? H3.objs.size = none := by
    cases q : s2.heap.get? H3.objs.size with
    | none => rfl
    | some o => exact absurd (Heap.lt_size (k3 _ _ q)) (Nat.lt_irrefl _)
  have hDC : s2.heap.objs.size ≠ H3.objs.size := Nat.ne_of_lt (Heap.lt_size hD3)
  have hgt : ∀ c, H3.objs.size ≤ c → s2.heap.get? c = none := fun c hc => by
    cases q : s2.heap.get? c with
    | none => rfl
    | some o => exact absurd (Heap.lt_size (k3 _ _ q)) (Nat.not_lt_of_le hc)
  generalize hh4 : pushCells (H3.push { cls := .type "dict", data := .dict #[] }) scope.names = h4
  have kp : ∀ b o, H3.get? b = some o → h4.get? b = some o := fun b o e => hh4 ▸ pushCells_keeps _ _ b o (Heap.get?_push_of_some _ e)
  have k4 : ∀ b o, s2.heap.get? b = some o → h4.get? b = some o := fun b o e => kp b o (k3 b o e)
  have hn : h4.Ns H3.objs.size (fun _ => none) := hh4 ▸ (Heap.Ns.new H3 (.type "dict")).keeps (pushCells_keeps _ _)
  have hD4 : h4.get? s2.heap.objs.size = some { cls := .type "list", dict := none, data := .seq ([] : List Value).toArray } := kp _ _ hD3
  let s4 : Shared := { s2 with heap := h4 }
  have e24 : Ext0 s2 s4 := Ext0.heap k4
  have z24 : ZG Z2 s2 Z2 s4 := ZG.same z2.lt e24
  let Fc : Fi := compFi F scope H3.objs.size Z2 s.heap
  have hfr2 := st2.free hsc hown hfree
  have hsz : H3.objs.size + 1 = (H3.push { cls := .type "dict", data := .dict #[] }).objs.size := (Heap.size_push ..).symm
  have accLt : ∀ z d, (clGo F.cells scope.names []).lookup z = some d → d < H3.objs.size + 1 := fun z d h => by
    rcases clGo_get F.cells scope.names [] z d h with ⟨q1, q2⟩ | q
    · obtain ⟨c, v, q3, q4⟩ := hfr2 (z, .free) q2 rfl
      rw [q1] at q3; cases q3
      obtain ⟨o, q5, _⟩ := q4
      exact Nat.lt_succ_of_lt (Heap.lt_size (k3 _ _ q5))
    · simp at q
  have mine : ∀ x, x ∈ cellNames scope → ∃ c, Fc.cells.lookup x = some c ∧ h4.IsCell c none ∧ H3.objs.size + 1 ≤ c := fun x hx => by
    have := cellsFrom_mine (H3.objs.size + 1) scope.names (H3.push { cls := .type "dict", data := .dict #[] }) (clGo F.cells scope.names []) x (by rw [← hsz]; exact Nat.le_refl _) (.inl (mem_cellNames.mp hx))
    rw [← hsz, hh4] at this
    exact this
  let Wc : Addr → Prop := fun b => b = H3.objs.size ∨ (H3.objs.size + 1 ≤ b ∧ ∃ x, Fc.cells.lookup x = some b ∧ x ∈ cellNames scope)
  have wAbs : ∀ b, Wc b → s2.heap.get? b = none := by
    rintro b (rfl | ⟨h, _⟩)
    · exact hC2
    · exact hgt b (Nat.le_of_succ_le h)
  have stc : St G Fc Z2 Wc κ s4 := {
    b0 := st.base
    hk := fun b o e => k4 b o (e2.keep' b o e)
    bare := e24.bare st2.bare
    zlt := z24.lt
    wlt := by
      rintro b (rfl | ⟨_, x, hx, hm⟩)
      · obtain ⟨o, _, _, q, _⟩ := hn; exact ⟨o, q⟩
      · obtain ⟨c, q1, ⟨o, q2, _⟩, _⟩ := mine x hm
        rw [hx] at q1; cases q1
        exact ⟨o, q2⟩
    wn0 := fun b w => Ext0.dead e2 (wAbs b w)
    disj := fun b z w => by obtain ⟨o, q⟩ := z2.lt _ z; rw [wAbs b w] at q; cases q
    z0 := fun b z => .inl z
    z1 := fun b z => z
    LW := .inl rfl
    kind := hkind
    ns := ⟨_, hn⟩
    cells := fun x hx _ => by
      rcases hx with hx | hx
      · cases hx
      · obtain ⟨c, q1, q2, q3⟩ := mine x hx
        exact ⟨c, _, q1, q2, .inr ⟨q3, x, q1, hx⟩⟩
    inj := fun x hx y c q1 q2 => by
      rcases hx with hx | hx
      · cases hx
      · obtain ⟨c', q3, _, q5⟩ := mine x hx
        rw [q1] at q3; cases q3
        exact cellsFrom_uniq scope.names (H3.objs.size + 1) _ x y c accLt q5 q1 q2
    ownd := fun h => by rw [show Fc.sc.names.lookup (".0" : Str) = (relab scope sc).names.lookup (".0" : Str) from by show (relab scope F.sc).names.lookup _ = _; rw [hsc]] at h; exact absurd h hdot
    vals := fun y pv hy => by
      obtain ⟨_, hσ, hm, hrl, hnc⟩ := hcap y _ hy
      obtain ⟨v, hv, hr⟩ := st2.vals y pv hσ
      refine ⟨v, .inr ⟨by show (relab scope F.sc).names.lookup y = _; rw [hsc]; exact hrl, ?_⟩, hr.ext e24 z24⟩
      rcases hv with ⟨k, _⟩ | ⟨k, c, hcl, hcv⟩
      · rw [hsc, hfree (y, .free) hm rfl] at k; cases k
      · refine ⟨c, ?_, hcv.keeps k4⟩
        show (cellsFrom (H3.objs.size + 1) scope.names (clGo F.cells scope.names [])).lookup y = some c
        rw [cellsFrom_not _ _ _ _ (fun p hp e hk => hnc (mem_cellNames.mpr (by obtain ⟨a, b⟩ := p; subst e; subst hk; exact hp)))]
        exact clGo_has F.cells scope.names [] y c hcl (.inl hm) (fun b hb => by simp at hb)
    owns := ⟨fun _ => (0 : Nat), And.intro (fun y l hy => by obtain ⟨⟨pv, h⟩, _⟩ := hcap y _ hy; cases h) (fun y _ l _ hy => by obtain ⟨⟨pv, h⟩, _⟩ := hcap y _ hy; cases h)⟩ }
  have notwr : ∀ b, (s2.heap.get? b = none) → ¬ wr b := fun b d q => by obtain ⟨o, e⟩ := its.live b q; rw [d] at e; cases e
  have it4 : ItAt G n true I gs xs Z2 wr s4 := it.kp ⟨stc.bs, fun b o _ e => k4 b o e, fun _ _ => rfl⟩ (Nat.le_refl _)
  have loop : ∀ s5 : Shared, s5 = s4 → codeAny (model G.prog G.w) A (.compLoop (.ListComp elt [⟨t, iter, [], 0⟩, ⟨t1, i1, ifs, 0⟩] scope pos) 0 (.ref I) (.ref s2.heap.objs.size) Fc.env) (RR (.ref s2.heap.objs.size) H3.objs.size) s5 := by
    rintro s5 rfl
    refine comp_out (F := Fc) (by show relab scope F.sc = _; rw [hsc]) rfl (fun _ h => h) ok hs1 hc Z2 Wc Z2 wr s4 [] [] stc it4 (fun _ z => z) its.apart (fun b w => notwr _ (wAbs b w)) (fun b q => ?_) (fun x c hx => ?_) (notwr _ (none_size _)) (not_live z2.lt (none_size _)) ?_ (Ext0.dead e2 (none_size _))
      ⟨0, hD4⟩ (by simp [Reps]) (by simp only [List.length_nil]; omega) fun s' Z' ws g hzD st' hp hr => ?_
    · exact hwr b q
    · have hx' : (cellsFrom (H3.objs.size + 1) scope.names (clGo F.cells scope.names [])).lookup x = some c := hx
      rcases cellsFrom_cases _ _ _ x c hx' with q | q
      · have hm : x ∈ cellNames scope := by
          by_cases hm : x ∈ cellNames scope
          · exact hm
          · rw [cellsFrom_not _ _ _ _ (fun p hp e hk => hm (mem_cellNames.mpr (by obtain ⟨a, b⟩ := p; subst e; subst hk; exact hp)))] at hx'
            exact absurd (accLt x c hx') (Nat.not_lt_of_le q)
        obtain ⟨c', q1, ⟨o, q2, _⟩, _⟩ := mine x hm
        rw [hx] at q1; cases q1
        exact ⟨⟨o, q2⟩, notwr _ (hgt c (Nat.le_of_succ_le q)), fun e => by
          have := Heap.lt_size hD3
          rw [e] at q
          exact Nat.lt_irrefl _ (Nat.lt_of_lt_of_le this (Nat.le_of_succ_le q))⟩
      · rcases clGo_get F.cells scope.names [] x c q with ⟨h1, h2⟩ | h
        · obtain ⟨c', v, h3, ⟨oc, h4, _⟩⟩ := st.free hsc hown hfree (x, .free) h2 rfl
          rw [h1] at h3; cases h3
          refine ⟨⟨oc, k4 _ _ (e2.keep' _ _ h4)⟩, fun q => ?_, fun q => ?_⟩
          · rw [hwr c q] at h4; cases h4
          · rw [q, Ext0.dead e2 (none_size _)] at h4; cases h4
        · simp at h
    · rintro (h | ⟨h, _⟩)
      · exact hDC h
      · have := Heap.lt_size hD3
        exact Nat.lt_irrefl _ (Nat.lt_of_lt_of_le this (Nat.le_of_succ_le h))
    · have abs : ∀ b, (Wc b ∨ (wr b ∨ b = s2.heap.objs.size)) → s.heap.get? b = none := by
        rintro b (w | w | rfl)
        · exact Ext0.dead e2 (wAbs b w)
        · exact hwr b w
        · exact Ext0.dead e2 (none_size _)
      have e4 : Ext0 s s4 := e2.trans' e24
      refine hRR _ _ s' Z' ws ⟨e4.trans g.ext (fun b w => .inr (abs b w)) (fun x hx => .inr (hgs x hx)), ⟨fun b z => g.zs b (z2.sub b z), fun b z => ?_, st'.zlt⟩, Ext0.dead e2 (none_size _), Ext0.dead e2 hC2, hDC, hzD, fun z => st'.disj _ z (.inl rfl), st'.ns, hp, by simpa using hr, st'.bs⟩
      rcases g.zw b z with z | w | w | d
      · exact z2.new b z
      · exact .inr (abs b (.inl w))
      · exact .inr (abs b (.inr w))
      · exact .inr (Ext0.dead e4 d)
  exact codeAny_compStart_list (loop _ rfl) (it4.its.self s4 (Kp.refl stc.bs) A _ _ ok (loop _ rfl))

theorem Ev.comp2P {elt t iter t1 i1 : Expr} {ifs : List Expr} {scope : Scope} {pos : Pos} {xs ys : List PV}
    (h1 : EvI G n sc σ iter xs true) (hlen : xs.length ≤ 1000) (hs1 : ∀ env x, foldedSetIterable i1 env x = pure x) (hc : Comp2Ok G n (cellNames scope) (relab scope sc) κ t t1 i1 ifs elt xs ys) (hcap : Caps sc scope σ κ) (hfree : FreeOk sc scope) (hdot : (relab scope sc).names.lookup (".0" : Str) ≠ none) (hf : sc.names.lookup (".0" : Str) = none ∨ FreeIn σ scope)
    (hkind : scope.kind = .function) (hnames : ∀ y ∈ scope.names, y.2 = .local → scope.names.lookup y.1 = some .local) (hs : ∀ env x, foldedSetIterable iter env x = pure x) :
    Ev G n sc σ (.ListComp elt [⟨t, iter, [], 0⟩, ⟨t1, i1, ifs, 0⟩] scope pos) (.pl ys) := by
  refine ⟨fun F A Z W s Q E hsc ok st h => ?_⟩
  have hown : F.own = true ∨ FreeIn σ scope := hf.imp (fun hf => st.ownd (by rw [hsc]; exact hf)) id
  rw [eval_ListComp]
  refine wpAny_comprehension_free (use := none) rfl (hs _) (st.closure hsc hown hfree) hkind hnames (comp_block2 (pos := pos) (E1 := E) hsc hown ok st h1 hlen hs1 hc hcap hfree hdot hkind (RR := fun acc C => compPost (model G.prog G.w) A E none Q acc C) fun D C s' Z' ws ce => ?_)
  obtain ⟨m, hm⟩ := ce.ns
  refine ⟨m, hm, fun h' hs' => ?_⟩
  obtain ⟨q1, q2, q3, q4⟩ := ce.gone hs'
  obtain ⟨k, q3'⟩ := q3
  refine h _ _ (fun b => Z' b ∨ b = D) q1 ⟨fun b z => .inl (q2.sub b z), fun b z => z.elim (q2.new b) fun e => .inr (e ▸ ce.dD), fun b z => z.elim (q2.lt b) fun e => ⟨_, e ▸ q3'⟩⟩ ?_
  simp only [Rep]
  exact ⟨D, ws, rfl, .inr rfl, ⟨k, q3'⟩, q4.mono (fun _ z => .inl z) fun _ _ _ e => e⟩

theorem swaps_comp2 {elt t iter t1 i1 : Expr} {ifs : List Expr} {scope : Scope} {cp p : Pos} {x : Str} {line : Nat} {env : Env} : ∃ b : Bool, swapsWith (.ListComp elt [⟨t, iter, [], 0⟩, ⟨t1, i1, ifs, 0⟩] scope cp) (some (.Name x p)) line env = pure b := ⟨_, rfl⟩

theorem Ex1.assignComp2 {x : Str} {elt t iter t1 i1 : Expr} {ifs : List Expr} {scope : Scope} {cp p pos : Pos} {xs ys : List PV}
    (h1 : EvI G n sc σ iter xs true) (hlen : xs.length ≤ 1000) (hs1 : ∀ env x, foldedSetIterable i1 env x = pure x) (hc : Comp2Ok G n (cellNames scope) (relab scope sc) κ t t1 i1 ifs elt xs ys) (hcap : Caps sc scope σ κ) (hfree : FreeOk sc scope) (hdot : (relab scope sc).names.lookup (".0" : Str) ≠ none) (hf : sc.names.lookup (".0" : Str) = none)
    (hkind : scope.kind = .function) (hnames : ∀ y ∈ scope.names, y.2 = .local → scope.names.lookup y.1 = some .local) (hs : ∀ env x, foldedSetIterable iter env x = pure x)
    (hk : sc.names.lookup x = some .local ∨ sc.names.lookup x = some .cell) :
    Ex1 G n sc σ (.Assign [.Name x p] (.ListComp elt [⟨t, iter, [], 0⟩, ⟨t1, i1, ifs, 0⟩] scope cp) pos) (.next ((x, .val (.pl ys)) :: σ)) := by
  refine ⟨fun F A Z W s Q E hsc ho ok st h => ?_⟩
  obtain ⟨b, hb⟩ := swaps_comp2 (elt := elt) (t := t) (iter := iter) (t1 := t1) (i1 := i1) (ifs := ifs) (scope := scope) (cp := cp) (p := p) (x := x) (line := pos.line) (env := F.env)
  cases b with
  | false =>
    refine wpAny_Assign_Name ((Ev.comp2P (pos := cp) h1 hlen hs1 hc hcap hfree hdot (.inl hf) hkind hnames hs).run F A Z W s _ _ hsc ok st fun v s1 Z1 e1 z1 r1 => ?_) hb
    exact (st.ext e1 z1).put ho (by rw [hsc]; exact hk) r1 fun s2 g2 st2 => h _ s2 Z1 W ((Gr.of e1 z1).trans g2) ⟨rfl, st2⟩
  | true =>
    rw [exec_Assign_Name_used _ _ _ _ hb]
    refine wpAny_bind (wpAny_standAt (wpAny_bind ?_))
    show wpAny _ A (do let _ ← comprehension (.ListComp elt [⟨t, iter, [], 0⟩, ⟨t1, i1, ifs, 0⟩] scope cp) scope F.env _ (newList []) false (eval iter F.env) (some (PySem.assign (.Name x p) F.env))) _ _ s
    refine wpAny_bind (wpAny_mono (wpAny_comprehension_free (use := some (PySem.assign (.Name x p) F.env)) (Q := fun _ s' => Q .next s') rfl (hs _) (st.closure hsc (.inl ho) hfree) hkind hnames
      (comp_block2 (pos := cp) (E1 := E) hsc (.inl ho) ok st h1 hlen hs1 hc hcap hfree hdot hkind (RR := fun acc C => compPost (model G.prog G.w) A E (some (PySem.assign (.Name x p) F.env)) (fun _ s' => Q .next s') acc C) fun D C s' Z' ws ce => ?_)) (fun _ s' hq => wpAny_pure (wpAny_pure hq)) fun _ _ e => e)
    show wpAny _ A (PySem.assign (.Name x p) F.env (.ref D)) _ _ _
    obtain ⟨k, hpl⟩ := ce.pl
    have z1 : ZG Z s (fun b => Z' b ∨ b = D) s' := ⟨fun b z => .inl (ce.zg.sub b z), fun b z => z.elim (ce.zg.new b) fun e => .inr (e ▸ ce.dD), fun b z => z.elim (ce.zg.lt b) fun e => ⟨_, e ▸ hpl⟩⟩
    have st1 := st.ext ce.ext z1
    have nWC : ¬ W C := fun w => by obtain ⟨o, e⟩ := st.wlt C w; rw [ce.dC] at e; cases e
    refine wpAny_assign_Name (st1.put ho (by rw [hsc]; exact hk) (pv := .pl ys) ?_ fun s2 g2 st2 => ?_)
    · simp only [Rep]
      exact ⟨D, ws, rfl, .inr rfl, ⟨k, hpl⟩, ce.rs.mono (fun _ z => .inl z) fun _ _ _ e => e⟩
    · obtain ⟨m, oc, es, ep, q1, q2⟩ := ce.ns
      refine ⟨m, ⟨oc, es, ep, g2.ext.keep C _ nWC q1, q2⟩, fun h' hs' => ?_⟩
      have e3 : ExtG (fun b => b = C) (fun _ => False) s2 { s2 with heap := h' } := ⟨fun b o nb e => (hs'.2 b nb).trans e, Nat.le_refl _, fun _ _ _ e => e, rfl, fun x => x⟩
      have nZC : ∀ b, (Z' b ∨ b = D) → b ≠ C := fun b z q => z.elim (fun z => ce.zC (q ▸ z)) fun e => ce.ne (e.symm.trans q)
      have z3 : ZG (fun b => Z' b ∨ b = D) s2 (fun b => Z' b ∨ b = D) { s2 with heap := h' } := ⟨fun _ z => z, fun _ z => .inl z, fun b z => let ⟨o, e⟩ := st2.zlt b z; ⟨o, e3.keep b o (nZC b z) e⟩⟩
      have h0C : F.h0.get? C = none := by
        cases e : F.h0.get? C with
        | none => rfl
        | some o => have := st.hk C o e; rw [ce.dC] at this; cases this
      have st3 := st2.step e3 z3 (fun b w q => nWC (q ▸ w)) nZC (fun b q => by have q : b = C := q; rw [q]; exact h0C) (noTrue ho)
      have ga : Gr Z W s (fun b => Z' b ∨ b = D) W s2 := (Gr.of ce.ext z1).trans g2
      exact h _ _ _ W ⟨ga.ext.trans e3 (fun b w => .inr (by have w : b = C := w; rw [w]; exact ce.dC)) (fun _ h => h.elim), ga.zs, ga.zw, ga.wg⟩ ⟨rfl, st3⟩

end
end Mine
namespace Mine

section
variable {G : Gc} {F : Fi} {Z W : Addr → Prop} {σ : Loc} {s : Shared}
/-- a new list that the frame may change, in a cell -/
theorem St.putOwnC {x : Str} {xs : List PV} {vs : List Value} {a : Addr} {A : Around} {E : Value → Shared → Prop} {Q : Unit → Shared → Prop} (st : St G F Z W σ s) (ho : F.own = true) (hk : F.sc.names.lookup x = some .cell)
    (hp : s.heap.PlainList a vs.toArray) (hr : Reps Z s.heap xs vs) (za : ¬ Z a) (wa : ¬ W a) (ha : F.h0.get? a = none)
    (h : ∀ s', ExtG W no s s' → St G F Z (fun b => W b ∨ b = a) ((x, .own xs) :: σ) s' → Q () s') : wpAny (model G.prog G.w) A (storeName F.env x (.ref a)) Q E s := by
  obtain ⟨m, hm⟩ := st.ns
  obtain ⟨c, v0, hc, hv0, wc⟩ := st.cells x (.inl ho) hk
  refine wpAny_storeName_cell (env := F.env) st.kind hk hc hv0 fun h' hv' hs => ?_
  have cl := cell_ne hm hv0
  have live : ∀ b o, s.heap.get? b = some o → ∃ o', h'.get? b = some o' := fun b o e => by
    by_cases q : b = c
    · obtain ⟨o', e', _⟩ := hv'; exact ⟨o', q ▸ e'⟩
    · exact ⟨o, (hs.2 b q).trans e⟩
  have nw : ∀ b, ¬ W b → b ≠ c := fun b nb e => nb (e ▸ wc)
  have g : Gr Z W s Z W { s with heap := h' } := ⟨⟨fun b o nb e => (hs.2 b (nw b nb)).trans e, Nat.le_refl _, fun _ _ _ e => e, rfl, fun x => x⟩, fun _ z => z, fun _ z => .inl z, fun _ w => .inl w⟩
  have zk : ∀ b o, Z b → s.heap.get? b = some o → h'.get? b = some o := fun b o z e => g.ext.keep b o (st.disj b z) e
  have va : ∀ y w, y ≠ x → VarAt F s.heap y w → VarAt F h' y w := fun y w q r => by
    rcases r with ⟨k, m1, hn1, hm1⟩ | ⟨k, c1, hc1, oc, h2, h3⟩
    · exact .inl ⟨k, m1, hn1.sameBut hs (Ne.symm cl), hm1⟩
    · refine .inr ⟨k, c1, hc1, oc, (hs.2 c1 (fun e => q (st.inj x (.inl ho) y c hc (e ▸ hc1)).symm)).trans h2, h3⟩
  have hp' : h'.PlainList a vs.toArray := by
    have nl := list_ne_cell hv0 hp
    obtain ⟨k, a3⟩ := hp
    exact ⟨k, (hs.2 _ nl).trans a3⟩
  refine h _ g.ext {
    b0 := st.b0
    hk := fun b o e => (hs.2 b (fun q => by have := st.wn0 _ wc; rw [← q, e] at this; cases this)).trans (st.hk b o e)
    bare := st.bare
    zlt := fun b z => let ⟨o, e⟩ := st.zlt b z; live b o e
    wlt := ?_
    wn0 := ?_
    disj := ?_
    z0 := st.z0
    z1 := st.z1
    LW := .inl st.LW
    kind := st.kind
    ns := ⟨_, hm.sameBut hs (Ne.symm cl)⟩
    cells := fun y ho hy => by
      obtain ⟨c1, v1, h1, h2, h4⟩ := st.cells y ho hy
      by_cases q : c1 = c
      · subst q; exact ⟨c1, _, h1, hv', .inl h4⟩
      · obtain ⟨oc, h2, h3⟩ := h2
        exact ⟨c1, v1, h1, ⟨oc, (hs.2 c1 q).trans h2, h3⟩, .inl h4⟩
    inj := st.inj
    ownd := st.ownd
    vals := fun y p hy => ?_
    owns := ?_ }
  · rintro b (w | rfl)
    · obtain ⟨o, e⟩ := st.wlt b w; exact live b o e
    · obtain ⟨k, a3⟩ := hp'; exact ⟨_, a3⟩
  · rintro b (w | rfl)
    · exact st.wn0 b w
    · exact ha
  · rintro b z (w | rfl)
    · exact st.disj b z w
    · exact za z
  · by_cases q : y = x
    · subst q; rw [lookup_cons_self] at hy; cases hy
    · rw [lookup_cons_ne _ _ q] at hy
      obtain ⟨w, h1, h2⟩ := st.vals y p hy
      exact ⟨w, va y w q h1, h2.mono (fun _ z => z) zk⟩
  · obtain ⟨ad, h1, h2⟩ := st.owns
    refine ⟨fun y => if y = x then a else ad y, fun y ys hy => ?_, fun y z ys zs hy hz hyz => ?_⟩
    · by_cases q : y = x
      · subst q
        rw [lookup_cons_self] at hy
        cases hy
        dsimp only
        rw [if_pos rfl]
        exact ⟨.inr rfl, .inr ⟨hk, c, hc, hv'⟩, vs, hp', hr.mono (fun _ z => z) zk⟩
      · rw [lookup_cons_ne _ _ q] at hy
        obtain ⟨a1, a2, us, hq, a4⟩ := h1 y ys hy
        have nl := list_ne_cell hv0 hq
        obtain ⟨k, a3⟩ := hq
        dsimp only
        rw [if_neg q]
        exact ⟨.inl a1, va y _ q a2, us, ⟨k, (hs.2 _ nl).trans a3⟩, a4.mono (fun _ z => z) zk⟩
    · dsimp only
      by_cases q1 : y = x
      · by_cases q2 : z = x
        · exact absurd (q1.trans q2.symm) hyz
        · rw [if_pos q1, if_neg q2]
          rw [lookup_cons_ne _ _ q2] at hz
          intro e
          exact wa (e ▸ (h1 z zs hz).1)
      · by_cases q2 : z = x
        · rw [if_neg q1, if_pos q2]
          rw [lookup_cons_ne _ _ q1] at hy
          intro e
          exact wa (e ▸ (h1 y ys hy).1)
        · rw [if_neg q1, if_neg q2]
          rw [lookup_cons_ne _ _ q1] at hy
          rw [lookup_cons_ne _ _ q2] at hz
          exact h2 y z ys zs hy hz hyz
end
section
variable {G : Gc} {n : Nat} {σ : Loc} {sc : Scope}
theorem Ex1.assignOwnC {x : Str} {e : Expr} {xs : List PV} {p pos} (h1 : EvN G n sc σ e xs) (hk : sc.names.lookup x = some .cell)
    (hs : ∀ env, swapsWith e (some (.Name x p)) pos.line env = pure false) : Ex1 G n sc σ (.Assign [.Name x p] e pos) (.next ((x, .own xs) :: σ)) := by
  refine ⟨fun F A Z W s Q E hsc ho ok st h => ?_⟩
  refine wpAny_Assign_Name (h1.run F A Z W s _ _ hsc ok st fun a vs s1 Z1 e1 z1 na za hp r1 => ?_) (hs _)
  have st1 := st.ext e1 z1
  have h0 : F.h0.get? a = none := by
    cases q : F.h0.get? a with
    | none => rfl
    | some o => rw [st.hk a o q] at na; cases na
  refine st1.putOwnC ho (by rw [hsc]; exact hk) hp r1 za (fun w => by obtain ⟨o, q⟩ := st.wlt a w; rw [na] at q; cases q) h0 fun s2 g2 st2 => ?_
  refine h _ s2 Z1 _ ?_ ⟨rfl, st2⟩
  have g := Gr.of (W := W) e1 z1
  exact ⟨g.ext.trans g2 (fun b w => .inl w) (fun _ h => h.elim), g.zs, g.zw, fun b w => w.elim .inl fun e => .inr (e ▸ na)⟩
end

/-! the frame and what lies below are fixed -/
structure Ex1Y (G : Gc) (A : Around) (F : Fi) (σ : Loc) (st : Stmt) (o : Out) : Prop where
  run : ∀ (Z W : Addr → Prop) (s : Shared) (Q : Flow → Shared → Prop) (E : Value → Shared → Prop), St G F Z W σ s →
    (∀ fl s' Z' W', Gr Z W s Z' W' s' → OutAt G F Z' W' o fl s' → Q fl s') → wpAny (model G.prog G.w) A (exec st F.env) Q E s
structure ExY (G : Gc) (A : Around) (F : Fi) (σ : Loc) (ss : List Stmt) (o : Out) : Prop where
  run : ∀ (Z W : Addr → Prop) (s : Shared) (Q : Flow → Shared → Prop) (E : Value → Shared → Prop), St G F Z W σ s →
    (∀ fl s' Z' W', Gr Z W s Z' W' s' → OutAt G F Z' W' o fl s' → Q fl s') → wpAny (model G.prog G.w) A (execs ss F.env) Q E s
structure ExFY (G : Gc) (n : Nat) (A : Around) (F : Fi) (σ : Loc) (t : Expr) (xs : List PV) (ends : Bool) (body orelse : List Stmt) (o : Out) : Prop where
  run : ∀ (Z W Zi : Addr → Prop) (s : Shared) (I : Addr) (wr : Addr → Prop) (gs : Nat → Prop) (R : Result → Shared → Prop), St G F Z W σ s → ItAt G n ends I gs xs Zi wr s →
    (∀ b, Zi b → Z b) → (∀ b, Z b → ¬ wr b) → (∀ b, W b → ¬ wr b) → (∀ b, wr b → F.h0.get? b = none) → (∀ fl s' Z' W', GrI Z W wr gs s Z' W' s' → OutAt G F Z' W' o fl s' → R (.ok fl) s') →
    codeAny (model G.prog G.w) A (.forLoop t (.ref I) body orelse F.env) R s
section
variable {G : Gc} {n : Nat} {A : Around} {F : Fi} {σ τ : Loc} {sc : Scope} {o : Out}
theorem Ex1Y.of {st : Stmt} (hsc : F.sc = sc) (ho : F.own = true) (ok : OkA n A) (h : Ex1 G n sc σ st o) : Ex1Y G A F σ st o := ⟨fun Z W s Q E t k => h.run F A Z W s Q E hsc ho ok t k⟩
theorem ExY.of {ss : List Stmt} (hsc : F.sc = sc) (ho : F.own = true) (ok : OkA n A) (h : Ex G n sc σ ss o) : ExY G A F σ ss o := ⟨fun Z W s Q E t k => h.run F A Z W s Q E hsc ho ok t k⟩
theorem ExY.cons {s : Stmt} {ss : List Stmt} (h1 : Ex1Y G A F σ s (.next τ)) (h2 : ExY G A F τ ss o) : ExY G A F σ (s :: ss) o := by
  refine ⟨fun Z W s Q E st h => ?_⟩
  refine wpAny_execs_cons (h1.run Z W s _ _ st fun fl s1 Z1 W1 g1 o1 => ?_)
  obtain ⟨rfl, st1⟩ := o1
  exact h2.run Z1 W1 s1 _ _ st1 fun fl s2 Z2 W2 g2 o2 => h fl s2 Z2 W2 (g1.trans g2) o2
theorem ExY.weak {ss : List Stmt} (h1 : ExY G A F τ ss o) (h : subL τ σ) : ExY G A F σ ss o := ⟨fun Z W s Q E st k => h1.run Z W s Q E (st.weak h.out) k⟩
theorem ExFY.nil {t : Expr} {body orelse : List Stmt} (hsc : F.sc = sc) (ho : F.own = true) (ok : OkA n A) (h1 : ExY G A F σ orelse o) : ExFY G n A F σ t [] true body orelse o := by
  refine ⟨fun Z W Zi s I wr gs R st it hzi hz hw h0 h => ?_⟩
  refine forTurn_at ?_
  unfold ItAt at it
  have its := it.1
  refine it.2 s (Kp.refl st.bs) rfl A _ _ ok fun s1 e1 => ?_
  have z1 : ZG Z s Z s1 := ⟨fun _ z => z, fun _ z => .inl z, fun b z => let ⟨o, q⟩ := st.zlt b z; ⟨o, e1.keep b o (hz b z) q⟩⟩
  have st1 : St G F Z W σ s1 := st.step e1 z1 hw hz h0 (noTrue ho)
  refine codeAny_block (h1.run Z W s1 _ _ st1 fun fl s2 Z2 W2 g2 o2 => ?_)
  exact h fl s2 Z2 W2 ((GrI.it e1 z1).trans (GrI.fr (wr := wr) g2) fun b w => .inl w) o2

/-- one turn: what is asked of the body -/
theorem ExFY.turn {t : Expr} {x : PV} {xs : List PV} {ends : Bool} {body orelse : List Stmt} {τ : Loc} {o1 : Out} (hsc : F.sc = sc) (ho : F.own = true) (ok : OkA n A) (ha : AsV G none sc σ t x τ) (hb : ExY G A F τ body o1)
    (hn : ∀ τ', o1 = .next τ' → ExFY G n A F τ' t xs ends body orelse o) (hc : ∀ τ', o1 = .cont τ' → ExFY G n A F τ' t xs ends body orelse o) (hk : ∀ τ', o1 = .brk τ' → o = .next τ') (hr : ∀ p, o1 = .ret p → o = .ret p) :
    ExFY G n A F σ t (x :: xs) ends body orelse o := by
  refine ⟨fun Z W Zi s I wr gs R st it hzi hz hw h0 h => ?_⟩
  refine forTurn_at ?_
  unfold ItAt at it
  have its := it.1
  refine it.2 s Z (Kp.refl st.bs) hzi hz st.zlt A _ _ ok fun v s1 Z1 wr1 e1 z1 r1 it1 hwr1 => ?_
  have its1 := it1.its
  refine ⟨its1.plain, ?_⟩
  have st1 : St G F Z1 W σ s1 := st.step e1 z1 hw hz h0 (noTrue ho)
  have g1 : GrI Z W wr gs s Z1 W s1 := GrI.it e1 z1
  have hw1 : ∀ b, W b → ¬ wr1 b := fun b wb q => (hwr1 b q).elim (hw b wb) fun d => by
    obtain ⟨o, e⟩ := st.wlt b wb
    rw [d] at e; cases e
  refine ha.run F A Z1 W s1 v _ _ hsc ho ok.1 st1 r1 fun s2 g2 st2 => ?_
  refine hb.run Z1 W s2 _ _ st2 fun fl s3 Z3 W3 g3 o3 => ?_
  have g13 := g2.trans g3
  have g03 := g1.trans (GrI.fr (wr := wr) (gs := gs) g13) fun b w => .inl w
  have again : ∀ τ', St G F Z3 W3 τ' s3 → ExFY G n A F τ' t xs ends body orelse o → codeAny (model G.prog G.w) A (.forLoop t (.ref I) body orelse F.env) R s3 := fun τ' st3 ih => by
    have kp : Kp G Z1 wr1 gs s1 s3 := ⟨st3.bs, fun b o q e => g13.ext.keep b o (fun wb => q.elim (fun z => st1.disj b z wb) (hw1 b wb)) e, fun g hg => by
      have hlt := its1.glt g hg
      obtain ⟨x, hx⟩ : ∃ x, s1.gens[g]? = some x := ⟨_, Array.getElem?_eq_getElem hlt⟩
      rw [hx]; exact g13.ext.gens g x (fun f => f) hx⟩
    refine ih.run Z3 W3 Z1 s3 I wr1 gs R st3 (it1.kp kp g13.ext.gsize) g13.zs ?_ ?_ ?_ fun fl s4 Z4 W4 g4 o4 => h fl s4 Z4 W4 (g03.trans g4 hwr1) o4
    · intro b z q
      rcases g13.zw b z with z | w | d
      · exact its1.apart b z q
      · exact hw1 b w q
      · obtain ⟨o, e⟩ := its1.live b q; rw [d] at e; cases e
    · intro b w q
      rcases g13.wg b w with w | d
      · exact hw1 b w q
      · obtain ⟨o, e⟩ := its1.live b q; rw [d] at e; cases e
    · intro b q
      rcases hwr1 b q with w | d
      · exact h0 b w
      · cases q : F.h0.get? b with
        | none => rfl
        | some o => rw [st.hk b o q] at d; cases d
  cases o1 with
  | next τ' => obtain ⟨rfl, st3⟩ := o3; exact again τ' st3 (hn τ' rfl)
  | cont τ' => obtain ⟨rfl, st3⟩ := o3; exact again τ' st3 (hc τ' rfl)
  | brk τ' =>
    obtain ⟨rfl, st3⟩ := o3
    have := hk τ' rfl
    subst this
    exact h _ s3 Z3 W3 g03 ⟨rfl, st3⟩
  | ret p =>
    obtain ⟨v', rfl, r3, st3⟩ := o3
    have := hr p rfl
    subst this
    exact h _ s3 Z3 W3 g03 ⟨v', rfl, r3, st3⟩
theorem ExFY.weak {t : Expr} {xs : List PV} {ends : Bool} {body orelse : List Stmt} (h1 : ExFY G n A F τ t xs ends body orelse o) (h : ∀ y sl, τ.lookup y = some sl → σ.lookup y = some sl) : ExFY G n A F σ t xs ends body orelse o :=
  ⟨fun Z W Zi s I wr gs R st => h1.run Z W Zi s I wr gs R (st.weak h)⟩

theorem Ex1Y.for_ {t e : Expr} {xs : List PV} {ends : Bool} {body orelse : List Stmt} {pos} (hsc : F.sc = sc) (ho : F.own = true) (ok : OkA n A) (h1 : EvI G n sc σ e xs ends) (h2 : ExFY G n A F σ t xs ends body orelse o) (hs : ∀ env x, foldedSetIterable e env x = pure x) :
    Ex1Y G A F σ (.For t e body orelse pos) o := by
  refine ⟨fun Z W s Q E st h => ?_⟩
  refine wpAny_For (h1.run F A Z W s _ _ hsc ok st fun I s1 Z1 wr gs e1 z1 it hwr hgs => ?_) (hs _)
  have its := it.its
  refine h2.run Z1 W Z1 s1 I wr gs _ (st.ext e1 z1) it (fun _ z => z) its.apart (fun b w q => ?_) (fun b q => ?_) fun fl s2 Z2 W2 g2 o2 => ?_
  · obtain ⟨o, e⟩ := st.wlt b w
    rw [hwr b q] at e; cases e
  · cases e : F.h0.get? b with
    | none => rfl
    | some o => have := hwr b q; rw [st.hk b o e] at this; cases this
  · have ga : Gr Z W s Z1 W s1 := Gr.of e1 z1
    refine h fl s2 Z2 W2 ⟨ga.ext.trans g2.ext (fun b w => w.elim .inl fun w => .inr (hwr b w)) (fun g hg => .inr (hgs g hg)), fun b z => g2.zs b (ga.zs b z), fun b z => ?_, fun b w => ?_⟩ o2
    · rcases g2.zw b z with z | w | w | d
      · exact ga.zw b z
      · exact .inr (.inl w)
      · exact .inr (.inr (hwr b w))
      · exact .inr (.inr (Ext0.dead e1 d))
    · rcases g2.wg b w with w | w | d
      · exact .inl w
      · exact .inr (hwr b w)
      · exact .inr (Ext0.dead e1 d)
theorem ExFY.next {t : Expr} {x : PV} {xs : List PV} {ends : Bool} {body orelse : List Stmt} {τ τ' : Loc} (hsc : F.sc = sc) (ho : F.own = true) (ok : OkA n A) (ha : AsV G none sc σ t x τ) (hb : ExY G A F τ body (.next τ')) (h : ExFY G n A F τ' t xs ends body orelse o) :
    ExFY G n A F σ t (x :: xs) ends body orelse o := ExFY.turn hsc ho ok ha hb (fun _ e => by cases e; exact h) (fun _ e => by cases e) (fun _ e => by cases e) (fun _ e => by cases e)
end
end Mine
namespace Mine

structure Defs2 (G : Gc) : Prop extends Defs G where
  word : dWord ∈ recsOf G.p
  text : dText ∈ recsOf G.p
  told : dTold ∈ recsOf G.p
  due : dDue ∈ recsOf G.p
  runs : dRuns ∈ recsOf G.p
  pieces : dPieces ∈ recsOf G.p
  refused : dRefused ∈ recsOf G.p
  isrun : dIsRun ∈ recsOf G.p
  had : dHad ∈ recsOf G.p

def mir (w : Tx) : Tx := w.map fun x => 219 - x
theorem mir_len (w : Tx) : (mir w).length = w.length := by simp [mir]
theorem peqs_nats : ∀ l : List Nat, peqs (nats l) (nats l) = true
  | [] => rfl
  | a :: r => by
    have := peqs_nats r
    simp only [nats, List.map_cons, peqs] at *
    rw [this]; simp [peq]
theorem textF_lenB (k : Nat) (w : Tx) (h1 : 1 ≤ w.length) (h2 : w.length ≤ 20) (h3 : w.length ≤ k + 1) : (textF k w).length ≤ 800 := by
  have := textF_len k w h1 h3
  omega

section
variable {G : Gc} {n : Nat} {σ : Loc}
set_option maxHeartbeats 1000000

abbrev lS1 (w : Tx) (scr : List Int) : Loc := [("word", .val (.str w)), ("script", .val (.list (its scr)))]
theorem l2_0 (D : Defs2 G) (scr : List Int) (hl : scr.length ≤ 1000) : Ex1 G (n + 1) dLaw.scope [("script", .val (.list (its scr)))] (stAt dLaw.body 0) (.next (lS1 (wordF scr) scr)) :=
  Ex1.assign (Ev.callF (by decide) rfl (EvL.cons (Ev.nm rfl) EvL.nil (fun _ => rfl)) D.word (by rfl) (fn_word D.T.nb D.word scr hl) (fun _ _ => rfl)) (.inr rfl) (fun _ => rfl)
theorem l2_1 (D : Defs2 G) (scr : List Int) (w : Tx) (hl : w.length = 7) (hw : ∀ x ∈ w, 97 ≤ x ∧ x ≤ 122) : Ex1 G n dLaw.scope (lS1 w scr) (stAt dLaw.body 1) (.next (("turned", .val (.str (mir w))) :: lS1 w scr)) := by
  have ej : joinT [] ((mir w).map fun x => [x]) = mir w := joinT_ones _
  have ew : joinW [] ((mir w).map fun x => [x]) = 7 := by rw [joinW_ones, mir_len, hl]
  refine Ex1.assign (Ev.to (Ev.methS PySem.F.slot_str_join PySem.F.type_str_join (Ev.cStr (c := []) rfl) (EvL.cons (Ev.to (Ev.compr [] (EvI.str (Ev.nm rfl)) (by simp [signs, hl]) rfl trivial rfl (fun _ _ => rfl)
      (CompOk.map (fun x => .str [x]) (fun _ => true) (fun x => .str [219 - x]) w fun x hx => ?_)) (congrArg PV.list (?_ : _ = sts ((mir w).map fun x => [x])))) EvL.nil (fun _ => rfl)) (CallV.join (by rw [ew]; omega)) (fun _ => rfl) (fun _ => rfl) rfl (fun _ _ => rfl) (fun _ _ => rfl)) (congrArg PV.str ej)) (.inl rfl) (fun _ => rfl)
  · have hx' := hw x hx
    refine ⟨_, AsV.name (.inl rfl), .nil, fun _ => ?_, trivial⟩
    have e : ((219 : Int) - ((x : Nat) : Int)).toNat = 219 - x := by omega
    exact Ev.to (Ev.callB D.T.nb (by decide +kernel) (by decide) (by decide) (by decide) rfl (EvL.cons (Ev.bin Ev.cInt (Ev.callB D.T.nb (by decide +kernel) (by decide) (by decide) (by decide) rfl (EvL.cons (Ev.nm rfl) EvL.nil (fun _ => rfl)) (CallV.ord (x := x)) (fun _ _ => rfl) (fun _ _ => rfl)) BinV.subI) EvL.nil (fun _ => rfl)) (CallV.chr (by omega) (by omega)) (fun _ _ => rfl) (fun _ _ => rfl)) (congrArg (fun z => PV.str [z]) e)
  · rw [List.filter_eq_self.mpr (fun _ _ => rfl)]
    simp [sts, mir]
abbrev toldP (t0 t1 : List Nat) : PV := .list [.list (nats t0), .list (nats t1)]
theorem l2_2 (D : Defs2 G) (hn : n ≤ 700) (scr : List Int) (w : Tx) (t0 t1 : List Nat) (hl : w.length = 7) (h0 : toldF (textF 8 (65 :: w)) = some t0) (h1 : toldF (textF 8 (65 :: mir w)) = some t1) :
    Ex1 G (n + 50) dLaw.scope (("turned", .val (.str (mir w))) :: lS1 w scr) (stAt dLaw.body 2) (.next (("told", .val (toldP t0 t1)) :: ("turned", .val (.str (mir w))) :: lS1 w scr)) := by
  have lm := mir_len w
  have tl : ∀ (v : Tx), v.length = 7 → (textF 8 (65 :: v)).length ≤ 800 := fun v hv => textF_lenB 8 _ (by simp) (by simp; omega) (by simp; omega)
  exact Ex1.assign (Ev.mkL (EvL.cons (Ev.callF (by decide) rfl (EvL.cons (Ev.callF (by decide) rfl (EvL.cons (Ev.bin (Ev.cStr (c := [65]) rfl) (Ev.nm rfl) (BinV.addS (by simp; omega))) EvL.nil (fun _ => rfl)) D.text (by rfl) (fn_text (n := n + 40) D.toDefs D.text 8 (65 :: w) (by simp) (by simp; omega) (by omega)) (fun _ _ => rfl)) EvL.nil (fun _ => rfl)) D.told (by rfl) (fn_told (n := n + 7) D.toDefs (by omega) D.told _ (tl w hl) t0 h0) (fun _ _ => rfl))
    (EvL.cons (Ev.callF (by decide) rfl (EvL.cons (Ev.callF (by decide) rfl (EvL.cons (Ev.bin (Ev.cStr (c := [65]) rfl) (Ev.nm rfl) (BinV.addS (by simp; omega))) EvL.nil (fun _ => rfl)) D.text (by rfl) (fn_text (n := n + 40) D.toDefs D.text 8 (65 :: mir w) (by simp) (by simp; omega) (by omega)) (fun _ _ => rfl)) EvL.nil (fun _ => rfl)) D.told (by rfl) (fn_told (n := n + 7) D.toDefs (by omega) D.told _ (tl (mir w) (by omega)) t1 h1) (fun _ _ => rfl)) EvL.nil (fun _ => rfl)) (fun _ => rfl)) (by simp)) (.inl rfl) (fun _ => rfl)
abbrev lS3 (w : Tx) (scr : List Int) (t0 t1 : List Nat) : Loc := ("told", .val (toldP t0 t1)) :: ("turned", .val (.str (mir w))) :: lS1 w scr
theorem l2_3 (D : Defs2 G) (scr : List Int) (w : Tx) (hl : w.length = 7) : Ex1 G (n + 1) dLaw.scope (lS3 w scr (dueF w) (dueF (mir w))) (stAt dLaw.body 3) (.next (lS3 w scr (dueF w) (dueF (mir w)))) := by
  have lm := mir_len w
  have pk : pok 3 (toldP (dueF w) (dueF (mir w))) = true := by
    show ([PV.list (nats (dueF w)), .list (nats (dueF (mir w)))].all (pok 2)) = true
    simp only [List.all_cons, List.all_nil, Bool.and_true]
    rw [pok_nats, pok_nats]; rfl
  refine Ex1.if_ (c := false) (EvT.to (EvT.cmp (Ev.nm rfl) (Ev.mkL (xs := [.list (nats (dueF w)), .list (nats (dueF (mir w)))]) (EvL.cons (Ev.callF (by decide) rfl (EvL.cons (Ev.nm rfl) EvL.nil (fun _ => rfl)) D.due (by rfl) (fn_due D.T.nb D.due w hl) (fun _ _ => rfl))
    (EvL.cons (Ev.callF (by decide) rfl (EvL.cons (Ev.nm rfl) EvL.nil (fun _ => rfl)) D.due (by rfl) (fn_due D.T.nb D.due (mir w) (by omega)) (fun _ _ => rfl)) EvL.nil (fun _ => rfl)) (fun _ => rfl)) (by simp)) (CmpV.ne (k := 3) (m := 3) pk pk (by decide) (by decide)) rfl) ?_) Ex.nil
  simp only [peq, peqs, peqs_nats]; rfl
abbrev triP (a b : Tx) (g : Int) : PV := .tup [.str a, .str b, .int g]
theorem l2_4for (D : Defs2 G) (w : Tx) (scr : List Int) (t0 t1 : List Nat) : ∀ (l : List (Tx × Tx × Int)), (∀ r ∈ l, collI r.1 r.2.1 = r.2.2) →
    ExF G (n + 1) dLaw.scope (lS3 w scr t0 t1) (forTgt (stAt dLaw.body 4)) (l.map fun r => triP r.1 r.2.1 r.2.2) true (forBody (stAt dLaw.body 4)) [] (.next (lS3 w scr t0 t1)) := by
  intro l
  induction l with
  | nil => intro h; exact ExF.nil (Ex.fin ⟨rfl, rfl, rfl, rfl, trivial⟩)
  | cons r l ih =>
    intro h
    obtain ⟨a, b, g⟩ := r
    have hg : collI a b = g := h _ (.head _)
    refine ExF.next (τ' := lS3 w scr t0 t1) (AsV.tup (xs := [.str a, .str b, .int g]) (AsL.cons (AsV.name (.inl rfl)) (AsL.cons (AsV.name (.inl rfl)) (AsL.cons (AsV.name (.inl rfl)) AsL.nil))) rfl (fun _ => rfl))
      (Ex.cons (Ex1.if_ (c := false) (EvT.bools (EvA.or (a := false) (b := false) (EvT.to (EvT.cmp (a := .int (collI a b)) (b := .int g) (Ev.callF (by decide) rfl (EvL.cons (Ev.nm rfl) (EvL.cons (Ev.nm rfl) EvL.nil (fun _ => rfl)) (fun _ => rfl)) D.coll (by rfl) (fn_coll D.coll a b) (fun _ _ => rfl)) (Ev.nm rfl) CmpV.neI rfl) (by rw [hg]; simp))
        (fun _ => EvA.or (a := false) (b := false) (EvT.val (Ev.isBool D.T.nb rfl rfl rfl rfl (Ev.callF (by decide) rfl (EvL.cons (Ev.nm rfl) (EvL.cons (Ev.nm rfl) EvL.nil (fun _ => rfl)) (fun _ => rfl)) D.coll (by rfl) (fn_coll D.coll a b) (fun _ _ => rfl)) (fun _ _ => rfl)) rfl (fun _ e => by cases e) (fun _ e => by cases e) (fun _ => rfl)) (fun _ => EvA.or0)))) Ex.nil)
        (Ex.fin ⟨rfl, rfl, rfl, rfl, trivial⟩)) (ih fun r hr => h r (.tail _ hr))
theorem l2_4 (D : Defs2 G) (w : Tx) (scr : List Int) (t0 t1 : List Nat) (hl : w.length = 7) (h1 : collI (90 :: w) w = -1) (h2 : collI w w = 0) (h3 : collI w (90 :: w) = 1) : Ex1 G (n + 1) dLaw.scope (lS3 w scr t0 t1) (stAt dLaw.body 4) (.next (lS3 w scr t0 t1)) := by
  refine Ex1.for_ (EvI.tup (xs := [triP (90 :: w) w (-1), triP w w 0, triP w (90 :: w) 1]) (Ev.mkT (EvL.cons (Ev.mkT (EvL.cons (Ev.bin (Ev.cStr (c := [90]) rfl) (Ev.nm rfl) (BinV.addS (by simp; omega))) (EvL.cons (Ev.nm rfl) (EvL.cons (Ev.neg Ev.cInt) EvL.nil (fun _ => rfl)) (fun _ => rfl)) (fun _ => rfl)) (by simp))
    (EvL.cons (Ev.mkT (EvL.cons (Ev.nm rfl) (EvL.cons (Ev.nm rfl) (EvL.cons Ev.cInt EvL.nil (fun _ => rfl)) (fun _ => rfl)) (fun _ => rfl)) (by simp))
      (EvL.cons (Ev.mkT (EvL.cons (Ev.nm rfl) (EvL.cons (Ev.bin (Ev.cStr (c := [90]) rfl) (Ev.nm rfl) (BinV.addS (by simp; omega))) (EvL.cons Ev.cInt EvL.nil (fun _ => rfl)) (fun _ => rfl)) (fun _ => rfl)) (by simp)) EvL.nil (fun _ => rfl)) (fun _ => rfl)) (fun _ => rfl)) (by simp)))
    (l2_4for D w scr t0 t1 [(90 :: w, w, -1), (w, w, 0), (w, 90 :: w, 1)] fun r hr => ?_) (fun _ _ => rfl)
  rcases List.mem_cons.mp hr with rfl | hr
  · exact h1
  · rcases List.mem_cons.mp hr with rfl | hr
    · exact h2
    · rcases List.mem_cons.mp hr with rfl | hr
      · exact h3
      · cases hr
theorem l2_5 (D : Defs2 G) (hn : n ≤ 700) (w : Tx) (scr : List Int) (t0 t1 : List Nat) (hl : w.length = 7) (h1 : checkP ([41] ++ w ++ [40]) = false) (h2 : checkP ([34, 41] ++ w ++ [34, 92, 40]) = true) : Ex1 G (n + 50) dLaw.scope (lS3 w scr t0 t1) (stAt dLaw.body 5) (.next (lS3 w scr t0 t1)) := by
  refine Ex1.if_ (c := false) (EvT.bools (EvA.or (a := false) (b := false) (EvT.to (EvT.cmp (a := .bool (checkP ([41] ++ w ++ [40]))) (b := .bool false) (Ev.callF (by decide) rfl (EvL.cons (Ev.bin (Ev.bin (Ev.cStr (c := [41]) rfl) (Ev.nm rfl) (BinV.addS (by simp; omega))) (Ev.cStr (c := [40]) rfl) (BinV.addS (by simp; omega))) EvL.nil (fun _ => rfl)) D.check (by rfl) (fn_check (n := n + 48) D.T (by omega) (by omega) D.check D.strip D.iter _ (by simp; omega)) (fun _ _ => rfl)) Ev.cBool CmpV.isNotF rfl) h1)
    (fun _ => EvA.or (a := false) (b := false) (EvT.to (EvT.cmp (a := .bool (checkP ([34, 41] ++ w ++ [34, 92, 40]))) (b := .bool true) (Ev.callF (by decide) rfl (EvL.cons (Ev.bin (Ev.bin (Ev.cStr (c := [34, 41]) rfl) (Ev.nm rfl) (BinV.addS (by simp; omega))) (Ev.cStr (c := [34, 92, 40]) rfl) (BinV.addS (by simp; omega))) EvL.nil (fun _ => rfl)) D.check (by rfl) (fn_check (n := n + 48) D.T (by omega) (by omega) D.check D.strip D.iter _ (by simp; omega)) (fun _ _ => rfl)) Ev.cBool CmpV.isNotT rfl) (by rw [h2]; rfl)) (fun _ => EvA.or0)))) Ex.nil
abbrev lS6 (w : Tx) (scr : List Int) (t0 t1 : List Nat) (rs : List (Nat × Nat × Nat)) : Loc := ("runs", .val (.list (runsPV rs))) :: lS3 w scr t0 t1
theorem l2_6 (D : Defs2 G) (w : Tx) (scr : List Int) (t0 t1 : List Nat) (hl : w.length = 7) : Ex1 G (n + 2) dLaw.scope (lS3 w scr t0 t1) (stAt dLaw.body 6) (.next (lS6 w scr t0 t1 (runsF w))) :=
  Ex1.assign (Ev.callF (by decide) rfl (EvL.cons (Ev.nm rfl) EvL.nil (fun _ => rfl)) D.runs (by rfl) (fn_runs D.toDefs D.runs w (by omega)) (fun _ _ => rfl)) (.inr rfl) (fun _ => rfl)
end
end Mine
namespace Mine

def sqPV (r : Nat × Nat) : PV := .tup [.int r.1, .int r.2]
def sqsPV (l : List (Nat × Nat)) : List PV := l.map sqPV
def sqB (w : Tx) (st k : Nat) : Bool := slcN w k (k + st) == slcN w (k + st) (k + 2 * st)
def sqRow (w : Tx) (st : Nat) : List (Nat × Nat) := ((List.range' 0 (8 - 2 * st)).filter (sqB w st)).map fun k => (k, st)
def squaresF (w : Tx) : List (Nat × Nat) := [1, 2, 3].flatMap (sqRow w)
def covB (k st : Nat) (r : Nat × Nat × Nat) : Bool := decide (r.1 ≤ k) && (decide (k + 2 * st ≤ r.2.1) && (st % r.2.2 == 0))
def covF (sq : List (Nat × Nat)) (rs : List (Nat × Nat × Nat)) : Bool := sq.all fun q => rs.any (covB q.1 q.2)
theorem nat_fmod (a b : Nat) : (a : Int).fmod (b : Int) = ((a % b : Nat) : Int) := by
  rw [Int.fmod_eq_emod_of_nonneg _ (by omega)]; rfl

section
variable {G : Gc} {n : Nat} {σ τ : Loc} {sc : Scope}
theorem Comp2Ok.map {α : Type} {mn : List Str} {t t1 i1 elt : Expr} {ifs : List Expr} (g : α → PV) (zs ys : α → List PV) : ∀ (l : List α),
    (∀ a ∈ l, ∃ τ, AsV G (some mn) sc σ t (g a) τ ∧ EvI G n sc τ i1 (zs a) true ∧ CompOk G n mn sc τ t1 ifs elt (zs a) (ys a) ∧ (zs a).length ≤ 1000 ∧ subL σ τ) → Comp2Ok G n mn sc σ t t1 i1 ifs elt (l.map g) (l.flatMap ys)
  | [], _ => .nil
  | a :: l, h => by
    obtain ⟨τ, h1, h2, h3, h4, h5⟩ := h a (.head _)
    have ih := Comp2Ok.map g zs ys l fun b hb => h b (.tail _ hb)
    rw [List.map_cons, List.flatMap_cons]
    exact .cons h1 h2 h3 h4 ih h5.out
theorem Ex1.assignCompr2 {x : Str} {elt t iter t1 i1 : Expr} {ifs : List Expr} {scope : Scope} {cp p pos : Pos} {xs ys : List PV} (κ : Loc)
    (h1 : EvI G n sc σ iter xs true) (hlen : xs.length ≤ 1000) (hB : compB sc scope (κ.map (·.1)) = true) (hsub : subL κ σ) (hv : allVal κ = true) (hs : ∀ env x, foldedSetIterable iter env x = pure x) (hs1 : ∀ env x, foldedSetIterable i1 env x = pure x)
    (hk : sc.names.lookup x = some .local ∨ sc.names.lookup x = some .cell) (hc : Comp2Ok G n (cellNames scope) (relab scope sc) κ t t1 i1 ifs elt xs ys) :
    Ex1 G n sc σ (.Assign [.Name x p] (.ListComp elt [⟨t, iter, [], 0⟩, ⟨t1, i1, ifs, 0⟩] scope cp) pos) (.next ((x, .val (.list ys)) :: σ)) := by
  obtain ⟨q1, q2, q3, q4, q6, q7⟩ := compB_use hB hsub hv
  exact Ex1.plOut (Ex1.assignComp2 h1 hlen hs1 hc q1 q2 q3 q4 q6 q7 hs hk)
end

section
variable {G : Gc} {n : Nat} {σ : Loc}
set_option maxHeartbeats 1000000
theorem map_flatMap' {α β γ : Type} (f : β → γ) (g : α → List β) (l : List α) : l.flatMap (fun a => (g a).map f) = (l.flatMap g).map f := by
  induction l with
  | nil => rfl
  | cons a r ih => rw [List.flatMap_cons, List.flatMap_cons, List.map_append, ih]
theorem l2_7 (D : Defs2 G) (w : Tx) (scr : List Int) (t0 t1 : List Nat) (rs : List (Nat × Nat × Nat)) (hl : w.length = 7) :
    Ex1 G n dLaw.scope (lS6 w scr t0 t1 rs) (stAt dLaw.body 7) (.next (("squares", .val (.list (sqsPV (squaresF w)))) :: lS6 w scr t0 t1 rs)) := by
  have ev : ([1, 2, 3].flatMap fun st => ((List.range' 0 (8 - 2 * st)).filter (sqB w st)).map fun (k : Nat) => PV.tup [.int k, .int (st : Nat)]) = sqsPV (squaresF w) := by
    unfold sqsPV squaresF
    rw [← map_flatMap']
    congr 1
    funext st
    unfold sqRow
    rw [List.map_map]; rfl
  rw [← ev]
  refine Ex1.assignCompr2 [("word", .val (.str w))] (EvI.tup (xs := nats [1, 2, 3]) (Ev.mkT (EvL.cons Ev.cInt (EvL.cons Ev.cInt (EvL.cons Ev.cInt EvL.nil (fun _ => rfl)) (fun _ => rfl)) (fun _ => rfl)) (by simp [nats]))) (by simp [nats]) rfl ⟨rfl, trivial⟩ rfl (fun _ _ => rfl) (fun _ _ => rfl) (.inl rfl)
    (Comp2Ok.map (fun (st : Nat) => .int st) (fun st => nats (List.range' 0 (8 - 2 * st))) (fun st => ((List.range' 0 (8 - 2 * st)).filter (sqB w st)).map fun (k : Nat) => PV.tup [.int k, .int (st : Nat)]) [1, 2, 3] fun st hst => ?_)
  have h3 : 1 ≤ st ∧ st ≤ 3 := by simp at hst; omega
  refine ⟨_, AsV.name (.inl rfl), EvI.uptoN (lo := 0) (m := 8 - 2 * st) (Ev.callT D.T.nb (by decide +kernel) (by decide) (by decide) (by decide) rfl (EvL.cons (Ev.bin Ev.cInt (Ev.bin Ev.cInt (Ev.nm rfl) (BinV.mulI (IntMulOk.of_right (intBits_le_64 (by omega) (by omega))))) BinV.subI) EvL.nil (fun _ => rfl)) CallV.range1 (fun _ _ => rfl) (fun _ _ => rfl)) (by omega) (by omega) (by omega) (by omega), ?_, by rw [nats_len, List.length_range']; omega, ⟨rfl, trivial⟩⟩
  refine CompOk.map (fun (k : Nat) => .int k) (sqB w st) (fun (k : Nat) => PV.tup [.int k, .int (st : Nat)]) (List.range' 0 (8 - 2 * st)) fun k hk => ?_
  have hk' := mem_upto hk
  have hl7 : k + 2 * st ≤ 7 := by omega
  have mul : ∀ {m : Nat} {sc : Scope} {τ : Loc} {p q r t : Pos} {z : Nat}, τ.lookup ("step" : Str) = some (.val (.int (st : Nat))) → Ev G m sc τ (.BinOp (.Constant (.int 2) z p) .Mult (.Name "step" q) r) (.int (2 * (st : Nat))) := fun hs => Ev.bin Ev.cInt (Ev.nm hs) (BinV.mulI (IntMulOk.of_right (intBits_le_64 (by omega) (by omega))))
  exact ⟨_, AsV.name (.inl rfl), Tests.cond (EvT.cmp (a := .str (slcN w k (k + st))) (b := .str (slcN w (k + st) (k + 2 * st))) (ev_part (a := k) (b := k + st) rfl (Ev.nm rfl) (Ev.bin (Ev.nm rfl) (Ev.nm rfl) BinV.addI) rfl (by omega) (by omega) (by omega) (by omega))
    (ev_part (a := k + st) (b := k + 2 * st) rfl (Ev.bin (Ev.nm rfl) (Ev.nm rfl) BinV.addI) (Ev.bin (Ev.nm rfl) (Ev.bin Ev.cInt (Ev.nm rfl) (BinV.mulI (IntMulOk.of_right (intBits_le_64 (by omega) (by omega))))) BinV.addI) (by omega) (by omega) (by omega) (by omega) (by omega)) CmpV.eqS rfl) rfl,
    fun _ => Ev.mkT (EvL.cons (Ev.nm rfl) (EvL.cons (Ev.nm rfl) EvL.nil (fun _ => rfl)) (fun _ => rfl)) (by simp), ⟨rfl, rfl, trivial⟩⟩
theorem sqsPV_len (l : List (Nat × Nat)) : (sqsPV l).length = l.length := by simp [sqsPV]
theorem sqRow_le (w : Tx) (st : Nat) : (sqRow w st).length ≤ 8 := by
  unfold sqRow
  rw [List.length_map]
  refine Nat.le_trans (List.length_filter_le _ _) ?_
  rw [List.length_range']; omega
theorem squaresF_len (w : Tx) : (squaresF w).length ≤ 24 := by
  unfold squaresF
  simp only [List.flatMap_cons, List.flatMap_nil, List.length_append, List.length_nil]
  have h1 := sqRow_le w 1
  have h2 := sqRow_le w 2
  have h3 := sqRow_le w 3
  omega
theorem squaresF_bd (w : Tx) : ∀ q ∈ squaresF w, q.1 ≤ 100 ∧ q.2 ≤ 100 := by
  intro q hq
  obtain ⟨st, hst, hq⟩ := List.mem_flatMap.mp hq
  obtain ⟨k, hk, rfl⟩ := List.mem_map.mp hq
  have := mem_upto (List.mem_filter.mp hk).1
  simp at hst
  show k ≤ 100 ∧ st ≤ 100
  omega
theorem l2_8 (D : Defs2 G) (w : Tx) (scr : List Int) (t0 t1 : List Nat) (rs : List (Nat × Nat × Nat)) (sq : List (Nat × Nat)) (hs : sq.length ≤ 100) (hb : ∀ q ∈ sq, q.1 ≤ 100 ∧ q.2 ≤ 100) (hr : rs.length ≤ 100) (hpos : ∀ r ∈ rs, 1 ≤ r.2.2) (h : covF sq rs = true) :
    Ex1 G n dLaw.scope (("squares", .val (.list (sqsPV sq))) :: lS6 w scr t0 t1 rs) (stAt dLaw.body 8) (.next (("squares", .val (.list (sqsPV sq))) :: lS6 w scr t0 t1 rs)) := by
  have hf : (sq.filter fun q => (rs.filter (covB q.1 q.2)).isEmpty) = [] := by
    rw [List.filter_eq_nil_iff]
    intro q hq he
    have := List.all_eq_true.mp h q hq
    rw [List.isEmpty_iff] at he
    obtain ⟨r, hr, hc⟩ := List.any_eq_true.mp this
    have : r ∈ rs.filter (covB q.1 q.2) := List.mem_filter.mpr ⟨hr, hc⟩
    rw [he] at this; cases this
  refine Ex1.if_ (c := false) (EvT.to (EvT.cmp (a := .list []) (Ev.to (Ev.compr [("runs", .val (.list (runsPV rs)))] (EvI.list (xs := sqsPV sq) (Ev.nm rfl)) (by rw [sqsPV_len]; omega) rfl ⟨rfl, trivial⟩ rfl (fun _ _ => rfl)
    (CompOk.map sqPV (fun q => (rs.filter (covB q.1 q.2)).isEmpty) (fun q => .int q.1) sq fun q hq => ?_)) (by rw [hf]; rfl)) (Ev.mkL EvL.nil (by simp)) (CmpV.neNil rfl) rfl) rfl) Ex.nil
  obtain ⟨k, st⟩ := q
  have hq' := hb _ hq
  have ey : ((rs.filter (covB k st)).map fun _ => PV.int 1) = its ((rs.filter (covB k st)).map fun _ => (1 : Int)) := by simp [its]
  refine ⟨([("step", .val (.int (st : Nat))), ("k", .val (.int (k : Nat))), ("runs", .val (.list (runsPV rs)))] : Loc), AsV.tup (xs := [.int (k : Nat), .int (st : Nat)]) (AsL.cons (AsV.cellC (mem_cellNames.mpr (by decide +kernel)) rfl) (AsL.cons (AsV.cellC (mem_cellNames.mpr (by decide +kernel)) rfl) AsL.nil)) rfl (fun _ => rfl), Tests.cond (EvT.cmp (Ev.to (Ev.comprN [("k", .val (.int (k : Nat))), ("step", .val (.int (st : Nat)))] (EvI.list (xs := runsPV rs) (Ev.nm rfl)) (by rw [runsPV_len]; omega) rfl ⟨rfl, rfl, trivial⟩ rfl (fun _ _ => rfl)
    (CompOk.map runPV (covB k st) (fun _ => .int 1) rs fun r hrm => ?_)) (congrArg PV.list ey)) (Ev.mkL EvL.nil (by simp)) (CmpV.eqNil (pok_its _ 2)) rfl) ?_, fun _ => Ev.nm rfl, ⟨rfl, trivial⟩⟩
  · obtain ⟨b, e, s⟩ := r
    have hp : 1 ≤ s := hpos _ hrm
    have get : ∀ {m : Nat} {sc : Scope} {τ : Loc} {j x : Nat} {p q t : Pos} {z : Nat}, τ.lookup ("run" : Str) = some (.val (runPV (b, e, s))) → [b, e, s][j]? = some x → Ev G m sc τ (.Subscript (.Name "run" p) (.Constant (.int (j : Nat)) z q) t) (.int (x : Nat)) := fun {m sc τ j x p q t z} hx hj =>
      Ev.idxT (xs := nats [b, e, s]) (Ev.nm hx) Ev.cInt (by rw [getI_nat, nats, List.getElem?_map, hj]; rfl) (by simp [nats]) (fun _ _ => rfl)
    refine ⟨_, AsV.name (.inl rfl), Tests.cond (EvT.bools (EvA.and (a := decide (b ≤ k)) (EvT.to (EvT.cmp (get (j := 0) (x := b) rfl rfl) (Ev.nm rfl) CmpV.leI rfl) (by rw [Bool.eq_iff_iff]; simp))
      (fun _ => EvA.and (a := decide (k + 2 * st ≤ e)) (EvT.to (EvT.cmp (Ev.bin (Ev.nm rfl) (Ev.bin Ev.cInt (Ev.nm rfl) (BinV.mulI (IntMulOk.of_right (intBits_le_64 (by omega) (by omega))))) BinV.addI) (get (j := 1) (x := e) rfl rfl) CmpV.leI rfl) (by rw [Bool.eq_iff_iff]; simp; omega))
        (fun _ => EvA.and (a := (st % s == 0)) (b := true) (EvT.to (EvT.cmp (Ev.bin (Ev.nm rfl) (get (j := 2) (x := s) rfl rfl) (BinV.modI (by omega))) Ev.cInt CmpV.eqI rfl) (by rw [nat_fmod, Bool.eq_iff_iff]; simp; omega)) (fun _ => EvA.and0))))) (by simp [covB]), fun _ => Ev.cInt, ⟨rfl, rfl, trivial⟩⟩
  · rw [Bool.eq_iff_iff]; simp [its]
end
end Mine
namespace Mine

def uniqB : List Nat → Bool
  | [] => true
  | a :: r => !r.contains a && uniqB r
theorem uniq_nodup : ∀ {l : List Nat}, uniqB l = true → l.Nodup
  | [], _ => List.nodup_nil
  | a :: r, h => by
    unfold uniqB at h
    obtain ⟨h1, h2⟩ := Bool.and_eq_true_iff.mp h
    exact List.nodup_cons.mpr ⟨fun hm => (by rw [List.contains_iff_mem.mpr hm] at h1; cases h1), uniq_nodup h2⟩
theorem count_one {l : List Nat} (h : l.Nodup) : ∀ k ∈ l, (l.map fun (j : Nat) => (j : Int)).count (k : Int) = 1 := by
  have hm : (l.map fun (j : Nat) => (j : Int)).Nodup := by
    induction l with
    | nil => exact List.nodup_nil
    | cons a r ih =>
      obtain ⟨h1, h2⟩ := List.nodup_cons.mp h
      rw [List.map_cons]
      refine List.nodup_cons.mpr ⟨fun hx => ?_, ih h2⟩
      obtain ⟨b, hb, e⟩ := List.mem_map.mp hx
      have e : (b : Int) = (a : Int) := e
      have : b = a := by omega
      exact h1 (this ▸ hb)
  intro k hk
  have := hm.count (a := (k : Int))
  rw [this, if_pos (List.mem_map.mpr ⟨k, hk, rfl⟩)]

section
variable {G : Gc} {n : Nat} {σ : Loc}
set_option maxHeartbeats 2000000
abbrev lL (w : Tx) (t0 t1 : List Nat) (ps : List Nat) : Loc := [("places", .own (nats ps)), ("told", .val (toldP t0 t1)), ("word", .val (.str w))]
abbrev lR (w : Tx) (t0 t1 : List Nat) (ps : List Nat) (b e st : Nat) : Loc := ("step", .val (.int st)) :: ("end", .val (.int e)) :: ("begin", .val (.int b)) :: lL w t0 t1 ps
theorem l2_ifY (D : Defs2 G) {A : Around} {F : Fi} (hsc : F.sc = dLaw.scope) (ho : F.own = true) (hfrm : F.fr = some F.L) (ok : OkA 100 A) (hfr : A.frames = some [F.env]) (w : Tx) (t0 t1 ps res : List Nat) (b e st : Nat) (hl : w.length ≤ 100) (h1 : 1 ≤ st) (h2 : b + 2 * st ≤ e) (h3 : e ≤ w.length) (hok : isRunOk w b e st = true) (hne : res ≠ []) :
    Ex1Y G A F (("had", .val (.pl (nats res))) :: lR w t0 t1 ps b e st) (stAt (forBody (stAt dLaw.body 10)) 1) (.next (("had", .val (.pl (nats res))) :: lR w t0 t1 ps b e st)) := by
  refine ⟨fun Z W s Q E t h => ?_⟩
  refine wpAny_If (wpAny_isTrue_BoolOp (wpAny_allTrue_Or_cons ((EvT.to (b' := false) (EvT.cmp (G := G) (n := 100) (sc := dLaw.scope) (a := .list (nats res)) (Ev.ofPl (Ev.nm rfl)) (Ev.mkL EvL.nil (by simp)) (CmpV.eqNil (pok_nats _ 2)) rfl) (by cases res with | nil => exact absurd rfl hne | cons => rfl)).run F A Z W s _ _ hsc ok t fun s1 Z1 e1 z1 => ?_)))
  have t1 := t.ext e1 z1
  show wpAny _ _ (allTrue .Or [_] F.env) _ _ _
  refine wpAny_allTrue_Or_cons (wpAny_isTrue_Not (wpAny_isTrue_value (call_at (G := G) (n := 100) (sc := dLaw.scope) (xs := [.str w, .int b, .int e, .int st]) (by decide) rfl (EvL.cons (Ev.nm rfl) (EvL.cons (Ev.nm rfl) (EvL.cons (Ev.nm rfl) (EvL.cons (Ev.nm rfl) EvL.nil (fun _ => rfl)) (fun _ => rfl)) (fun _ => rfl)) (fun _ => rfl)) D.isrun (by rfl) (fun _ _ => rfl) hsc ok t1 fun a us s2 Z2 ha e2 z2 r2 => ?_) rfl))
  have t2 := t1.ext e2 z2
  have g0 : G.base.get? F.L = none := by
    cases q : G.base.get? F.L with
    | none => rfl
    | some o => have := t.b0 _ _ q; rw [t.wn0 _ t.LW] at this; cases this
  have ffF : s2.heap.FunFrames G.base [F.env] := by
    obtain ⟨m, hm⟩ := t2.ns
    exact Heap.FunFrames.cons (by rw [show F.env.scope.kind = _ from t2.kind]; decide) hfrm hm g0 trivial
  have mem : ∀ {L : Addr}, L ∈ frs [F.env] → L = F.L := fun hL => ((mem_frames (env := F.env) (outer := []) hfrm).mp hL).elim id fun h => by cases h
  refine call_isrun D.toDefs D.refused D.pieces D.isrun ha w b e st hl h1 h2 h3 hok (outer := [F.env]) ok hfr ffF (fun L hL z => by rw [mem hL] at z; exact t2.disj _ z t2.LW) t2.bs t2.zlt r2 fun s3 x3 => ?_
  obtain ⟨t3, _⟩ := t2.os (outer := []) ⟨trivial, fun L h => (by cases h), fun L h => (by cases h)⟩ hfrm ho (fun L h => (by cases h)) x3
  refine wpAny_truthy_bool ?_
  show wpAny _ _ (allTrue .Or [] F.env) _ _ _
  refine wpAny_allTrue_Or_nil ?_
  rw [if_neg Bool.false_ne_true]
  refine wpAny_execs_nil (h _ s3 Z2 W ?_ ⟨rfl, t3⟩)
  have g2 : Gr Z W s Z2 W s2 := Gr.of (e1.trans' e2) (z1.trans z2 e1)
  have g3 : Gr Z2 W s2 Z2 W s3 := ⟨⟨fun b o nw q => x3.keep b o (fun hm => nw (by rw [mem hm]; exact t2.LW)) q, x3.gk.gsize, x3.gk.gens, x3.gk.os, x3.gk.bare⟩, fun _ z => z, fun _ z => .inl z, fun _ w => .inl w⟩
  exact g2.trans g3

/-- what is asked of one run -/
def runOk (w : Tx) (t0 t1 : List Nat) (r : Nat × Nat × Nat) : Bool := decide (1 ≤ r.2.2) && (decide (r.1 + 2 * r.2.2 ≤ r.2.1) && (decide (r.2.1 ≤ w.length) && (isRunOk w r.1 r.2.1 r.2.2 && (hadOk w r.1 r.2.1 r.2.2 t0 t1).isSome)))
def placesF (w : Tx) (t0 t1 : List Nat) (rs : List (Nat × Nat × Nat)) : List Nat := rs.flatMap fun r => (hadOk w r.1 r.2.1 r.2.2 t0 t1).getD []
theorem had_ne {w : Tx} {b e st : Nat} {t0 t1 res : List Nat} (h : hadOk w b e st t0 t1 = some res) : res ≠ [] := by
  unfold hadOk at h
  simp only at h
  split at h
  · split at h
    · cases h
    · split at h
      · cases h; simp
      · cases h
  · cases h
theorem had_len {w : Tx} {b e st : Nat} {t0 t1 res : List Nat} (h : hadOk w b e st t0 t1 = some res) : res.length ≤ e := by
  have key : ∀ l, (hadL b e st l).length ≤ e := fun l => by
    unfold hadL
    refine Nat.le_trans (List.length_filter_le _ _) ?_
    rw [List.length_range']; omega
  unfold hadOk at h
  simp only at h
  split at h
  · have := key (if (sideF w e st == -1) = true then t0 else t1)
    split at h
    · cases h
    · rename_i hq
      split at h
      · cases h; rw [hq] at this; exact this
      · cases h
  · cases h
theorem l2_forY (D : Defs2 G) {A : Around} {F : Fi} (hsc : F.sc = dLaw.scope) (ho : F.own = true) (hfrm : F.fr = some F.L) (ok : OkA 100 A) (hfr : A.frames = some [F.env]) (w : Tx) (t0 t1 : List Nat) (hl : w.length ≤ 100) (hl0 : t0.length = w.length) (hl1 : t1.length = w.length) : ∀ (rs : List (Nat × Nat × Nat)) (ps : List Nat), (∀ r ∈ rs, runOk w t0 t1 r = true) → ps.length + 100 * rs.length ≤ 100000 →
    ExFY G 100 A F (lL w t0 t1 ps) (forTgt (stAt dLaw.body 10)) (runsPV rs) true (forBody (stAt dLaw.body 10)) [] (.next (lL w t0 t1 (ps ++ placesF w t0 t1 rs))) := by
  intro rs
  induction rs with
  | nil => intro ps h hn; exact ExFY.nil hsc ho ok (ExY.of hsc ho ok (Ex.fin ⟨by rw [show ps ++ placesF w t0 t1 [] = ps from List.append_nil _]; rfl, rfl, rfl, trivial⟩))
  | cons r rs ih =>
    intro ps h hn
    obtain ⟨b, e, st⟩ := r
    have hr := h _ (.head _)
    unfold runOk at hr
    simp only [Bool.and_eq_true, decide_eq_true_eq] at hr
    obtain ⟨r1, r2, r3, r4, r5⟩ := hr
    obtain ⟨res, hres⟩ := Option.isSome_iff_exists.mp r5
    have hrl := had_len hres
    have ep : ps ++ placesF w t0 t1 ((b, e, st) :: rs) = (ps ++ res) ++ placesF w t0 t1 rs := by
      show ps ++ (((hadOk w b e st t0 t1).getD []) ++ _) = _
      rw [hres, List.append_assoc]; rfl
    rw [ep]
    refine ExFY.next (τ' := lL w t0 t1 (ps ++ res)) (xs := runsPV rs) (x := runPV (b, e, st)) hsc ho ok (AsV.tup (xs := [.int b, .int e, .int st]) (AsL.cons (AsV.name (.inl rfl)) (AsL.cons (AsV.name (.inl rfl)) (AsL.cons (AsV.name (.inl rfl)) AsL.nil))) rfl (fun _ => rfl)) ?_ (ih (ps ++ res) (fun r hr => h r (.tail _ hr)) (by simp only [List.length_append, List.length_cons] at *; omega))
    refine ExY.cons (Ex1Y.of hsc ho ok (Ex1.assign (G := G) (n := 100) (Ev.callF (by decide) rfl (EvL.cons (Ev.nm rfl) (EvL.cons (Ev.nm rfl) (EvL.cons (Ev.nm rfl) (EvL.cons (Ev.nm rfl) (EvL.cons (Ev.nm rfl) EvL.nil (fun _ => rfl)) (fun _ => rfl)) (fun _ => rfl)) (fun _ => rfl)) (fun _ => rfl)) D.had (by rfl) (fn_had (n := 98) D.toDefs D.had w b e st t0 t1 res hl r1 r2 r3 hl0 hl1 hres) (fun _ _ => rfl)) (.inl rfl) (fun _ => rfl))) ?_
    refine ExY.cons (l2_ifY D hsc ho hfrm ok hfr w t0 t1 ps res b e st hl r1 r2 r3 r4 (had_ne hres)) ?_
    refine ExY.cons (Ex1Y.of hsc ho ok (Ex1.extend (G := G) (n := 100) (xs := nats ps) (ys := nats res) rfl (Ev.nm rfl) (by decide) (by rw [nats_len, nats_len]; simp only [List.length_cons] at hn; omega) (fun _ => rfl) (fun F h => by cases F; subst h; rfl) (fun _ => rfl) rfl (fun _ => rfl))) ?_
    exact ExY.of hsc ho ok (Ex.fin ⟨by rw [show nats (ps ++ res) = nats ps ++ nats res from List.map_append ..]; rfl, rfl, rfl, trivial⟩)
theorem l2_11 (D : Defs2 G) (ps : List Nat) (hl : ps.length ≤ 100000) (hu : uniqB ps = true) {σ : Loc} (hσ : σ.lookup ("places" : Str) = some (.own (nats ps))) : Ex G n dLaw.scope σ [stAt dLaw.body 11] (.ret (.bool true)) := by
  refine Ex.freezeP hσ (Ex.stop (Ex1.ret ?_) rfl)
  have hc := count_one (uniq_nodup hu)
  have hf : (ps.filter fun (k : Nat) => (ps.map fun (j : Nat) => (j : Int)).count (k : Int) != 1) = [] := by
    rw [List.filter_eq_nil_iff]
    intro k hk
    rw [hc k hk]; decide
  refine Ev.to (Ev.cmp (a := .list []) (Ev.to (Ev.compr [("places", .val (.pl (nats ps)))] (EvI.list (xs := nats ps) (Ev.ofPl (Ev.nm (lookup_cons_self ..)))) (by rw [nats_len]; omega) rfl ⟨lookup_cons_self .., trivial⟩ rfl (fun _ _ => rfl)
    (CompOk.map (fun (k : Nat) => .int k) (fun (k : Nat) => (ps.map fun (j : Nat) => (j : Int)).count (k : Int) != 1) (fun (k : Nat) => .int k) ps fun k hk => ?_)) (by rw [hf]; rfl)) (Ev.mkL EvL.nil (by simp)) (CmpV.eqNil rfl) rfl) rfl
  refine ⟨_, AsV.name (.inl rfl), Tests.cond (EvT.cmp (Ev.methP PySem.F.slot_list_count PySem.F.type_list_count (Ev.nm rfl) (EvL.cons (Ev.nm rfl) EvL.nil (fun _ => rfl)) (by rw [nats_its]; exact CallV.count) (fun _ => rfl) (fun _ => rfl) rfl (fun _ _ => rfl) (fun _ _ => rfl)) Ev.cInt CmpV.neI rfl) ?_, fun _ => Ev.nm rfl, ⟨rfl, trivial⟩⟩
  rw [Bool.eq_iff_iff]; simp; omega
end
end Mine
namespace Mine

def told2B (w : Tx) : Bool := toldF (textF 8 (65 :: w)) == some (dueF w)
def chk2B (w : Tx) : Bool := !checkP ([41] ++ w ++ [40]) && checkP ([34, 41] ++ w ++ [34, 92, 40])
def law2B (w : Tx) : Bool := covF (squaresF w) (runsF w) && ((runsF w).all (runOk w (dueF w) (dueF (mir w))) && (uniqB (placesF w (dueF w) (dueF (mir w)) (runsF w)) && decide ((runsF w).length ≤ 100)))
structure WordOk (w : Tx) : Prop where
  len : w.length = 7
  ok : ∀ x ∈ w, 97 ≤ x ∧ x < 123
theorem lastD0 : ∀ {w : Tx}, w ≠ [] → w.getLastD 0 ∈ w
  | [], h => absurd rfl h
  | [a], _ => by simp
  | a :: b :: r, _ => by
    have := lastD0 (w := b :: r) (by simp)
    exact .tail _ this
theorem wordF_ok (scr : List Int) : WordOk (wordF scr) := by
  have hg : (wordGo scr).length = 6 := by unfold wordGo; rw [foldW_len, numsW_len]; rfl
  have ho : ∀ x ∈ wordGo scr, 97 ≤ x ∧ x < 123 := foldW_ok _ _ (fun x hx => by cases hx)
  refine ⟨by unfold wordF; rw [List.length_append, hg]; rfl, fun x hx => ?_⟩
  unfold wordF at hx
  rcases List.mem_append.mp hx with hx | hx
  · exact ho x hx
  · rw [List.mem_singleton.mp hx]
    exact ho _ (lastD0 fun e => by rw [e] at hg; cases hg)
theorem dueF_len (w : Tx) : (dueF w).length = 7 := by unfold dueF; rw [List.length_map, List.length_range']
theorem coll_self (w : Tx) : collI w w = 0 := by
  unfold collI
  cases decide (w < w) <;> rfl
theorem coll_Z {w : Tx} (h : WordOk w) : collI (90 :: w) w = -1 ∧ collI w (90 :: w) = 1 := by
  obtain ⟨x, r, rfl⟩ : ∃ x r, w = x :: r := by
    cases w with
    | nil => have := h.len; cases this
    | cons x r => exact ⟨x, r, rfl⟩
  have hx := (h.ok x (.head _)).1
  have h1 : (90 :: x :: r : Tx) < x :: r := .rel (show (90 : Nat) < x by omega)
  have h2 : ¬ ((x :: r : Tx) < 90 :: x :: r) := ltT_asymm _ _ h1
  unfold collI
  rw [decide_eq_true h1, decide_eq_false h2]
  exact ⟨rfl, rfl⟩
theorem reps_intsL {Z : Addr → Prop} {h : Heap} : ∀ {vs : List Value} {is : List Int}, IntsAre vs is → Reps Z h (its is) vs
  | _, _, .nil => by simp [its, Reps]
  | _, _, .cons n t r => by
    simp only [its, List.map_cons, Reps]
    exact ⟨_, _, rfl, ⟨t, rfl⟩, reps_intsL r⟩

section
variable {G : Gc}
set_option maxHeartbeats 2000000
/-- law's body, its frame known -/
theorem law2_body (D : Defs2 G) {A : Around} {F : Fi} (hsc : F.sc = dLaw.scope) (ho : F.own = true) (hfrm : F.fr = some F.L) (ok : OkA 100 A) (hfr : A.frames = some [F.env]) (scr : List Int) (hl : scr.length ≤ 1000)
    (p1 : told2B (wordF scr) = true) (p2 : told2B (mir (wordF scr)) = true) (p3 : chk2B (wordF scr) = true) (p4 : law2B (wordF scr) = true) : ExY G A F [("script", .val (.list (its scr)))] dLaw.body (.ret (.bool true)) := by
  have wo := wordF_ok scr
  have hw := wo.len
  have q1 : toldF (textF 8 (65 :: wordF scr)) = some (dueF (wordF scr)) := by unfold told2B at p1; exact beq_iff_eq.mp p1
  have q2 : toldF (textF 8 (65 :: mir (wordF scr))) = some (dueF (mir (wordF scr))) := by unfold told2B at p2; exact beq_iff_eq.mp p2
  unfold chk2B at p3
  obtain ⟨c1, c2⟩ := Bool.and_eq_true_iff.mp p3
  have c1 : checkP ([41] ++ wordF scr ++ [40]) = false := by simpa using c1
  unfold law2B at p4
  simp only [Bool.and_eq_true, decide_eq_true_eq] at p4
  obtain ⟨b1, b2, b3, b4⟩ := p4
  have cz := coll_Z wo
  have ro := List.all_eq_true.mp b2
  have hn : ∀ m, m ≤ 100 → OkA m A := fun m hm => ⟨ok.1, by have := ok.2.1; omega, by have := ok.2.2; omega⟩
  have y0 := Ex1Y.of (A := A) hsc ho (hn 100 (by omega)) (l2_0 (n := 99) D scr hl)
  generalize wordF scr = w at *
  have wok : ∀ x ∈ w, 97 ≤ x ∧ x ≤ 122 := fun x hx => ⟨(wo.ok x hx).1, by have := (wo.ok x hx).2; omega⟩
  have hpl : (placesF w (dueF w) (dueF (mir w)) (runsF w)).length ≤ 100000 := by
    unfold placesF
    rw [List.length_flatMap]
    have : ∀ (rs : List (Nat × Nat × Nat)), (∀ r ∈ rs, runOk w (dueF w) (dueF (mir w)) r = true) → ((rs.map fun r => ((hadOk w r.1 r.2.1 r.2.2 (dueF w) (dueF (mir w))).getD []).length).sum) ≤ 7 * rs.length := by
      intro rs
      induction rs with
      | nil => intro _; simp
      | cons r rs ih =>
        intro h
        have i := ih fun x hx => h x (.tail _ hx)
        have hr := h r (.head _)
        unfold runOk at hr
        simp only [Bool.and_eq_true, decide_eq_true_eq] at hr
        obtain ⟨_, _, r3, _, r5⟩ := hr
        obtain ⟨res, hres⟩ := Option.isSome_iff_exists.mp r5
        have := had_len hres
        rw [List.map_cons, List.sum_cons, hres, List.length_cons]
        show res.length + _ ≤ _
        omega
    have := this _ ro
    omega
  refine ExY.cons y0 ?_
  refine ExY.cons (Ex1Y.of hsc ho (hn 100 (by omega)) (l2_1 (n := 100) D scr w hw wok)) ?_
  refine ExY.cons (Ex1Y.of hsc ho (hn 100 (by omega)) (l2_2 (n := 50) D (by omega) scr w _ _ hw q1 q2)) ?_
  refine ExY.cons (Ex1Y.of hsc ho (hn 100 (by omega)) (l2_3 (n := 99) D scr w hw)) ?_
  refine ExY.cons (Ex1Y.of hsc ho (hn 100 (by omega)) (l2_4 (n := 99) D w scr _ _ hw cz.1 (coll_self w) cz.2)) ?_
  refine ExY.cons (Ex1Y.of hsc ho (hn 100 (by omega)) (l2_5 (n := 50) D (by omega) w scr _ _ hw c1 c2)) ?_
  refine ExY.cons (Ex1Y.of hsc ho (hn 100 (by omega)) (l2_6 (n := 98) D w scr _ _ hw)) ?_
  refine ExY.cons (Ex1Y.of hsc ho (hn 100 (by omega)) (l2_7 (n := 100) D w scr _ _ _ hw)) ?_
  refine ExY.cons (Ex1Y.of hsc ho (hn 100 (by omega)) (l2_8 (n := 100) D w scr _ _ (runsF w) (squaresF w) (by have := squaresF_len w; omega) (squaresF_bd w) b4 (fun r hr => by
    have := ro r hr
    unfold runOk at this
    simp only [Bool.and_eq_true, decide_eq_true_eq] at this
    exact this.1) b1)) ?_
  refine ExY.cons (Ex1Y.of hsc ho (hn 100 (by omega)) (Ex1.assignOwnC (n := 100) (EvN.disp (xs := nats []) EvL.nil (by simp [nats])) rfl (fun _ => rfl))) ?_
  refine ExY.weak (τ := ("runs", .val (.list (runsPV (runsF w)))) :: lL w (dueF w) (dueF (mir w)) []) ?_ ⟨rfl, rfl, rfl, rfl, trivial⟩
  refine ExY.cons (τ := lL w (dueF w) (dueF (mir w)) ([] ++ placesF w (dueF w) (dueF (mir w)) (runsF w))) (Ex1Y.for_ (n := 100) (sc := dLaw.scope) hsc ho (hn 100 (by omega)) (EvI.list (xs := runsPV (runsF w)) (Ev.nm rfl)) (ExFY.weak (l2_forY D hsc ho hfrm ok hfr w _ _ (by omega) (by rw [dueF_len, hw]) (by rw [dueF_len, hw]) (runsF w) [] ro (by simp only [List.length_nil]; omega)) (subL.out ⟨rfl, rfl, rfl, trivial⟩)) (fun _ _ => rfl)) (ExY.of hsc ho (hn 100 (by omega)) (l2_11 (n := 100) D (placesF w (dueF w) (dueF (mir w)) (runsF w)) hpl b3 rfl))
theorem law2_enter (D : Defs2 G) (hm : dLaw ∈ recsOf G.p) {fa l : Addr} {vs : List Value} {is : List Int} {s : Shared} (hmg : G.mg "law" = some (.ref fa))
    (hL : s.heap.IsList l vs.toArray) (hI : IntsAre vs is) (hl : is.length ≤ 63) (hb : ∀ b o, G.base.get? b = some o → s.heap.get? b = some o) (hg : s.gens = #[])
    (p1 : told2B (wordF is) = true) (p2 : told2B (mir (wordF is)) = true) (p3 : chk2B (wordF is) = true) (p4 : law2B (wordF is) = true) {Q : Value → Shared → Prop} {E : Value → Shared → Prop}
    (h : ∀ s', (∀ b o, s.heap.get? b = some o → s'.heap.get? b = some o) → s'.os = s.os → AllBare s'.gens → Q (.bool true) s') : wpAny (model G.prog G.w) callerA (call (.ref fa) [.ref l]) Q E s := by
  have hbare : AllBare s.gens := AllBare.of_eq hg
  have bs : Bs G s := ⟨hb, hbare⟩
  have zl : Liv (fun b => b = l) s.heap := fun b e => by
    subst e
    obtain ⟨o, ho, _⟩ := hL
    exact ⟨o, ho⟩
  refine def_enter (d := dLaw) (x := "law") (ns := ["script"]) (xs := [.list (its is)]) (Z := fun b => b = l) s.heap hm (by rfl) (by intro pm code doc vs hv; (apply len1 hv; exact fun _ => rfl)) (by decide) (by decide +kernel) (by decide +kernel) rfl rfl rfl hmg
    (by show 1 + claimMargin < 1000; unfold claimMargin; omega) bs zl (by simp only [Reps, Rep]; exact ⟨_, _, rfl, ⟨l, vs, rfl, rfl, hL, reps_intsL hI⟩, rfl⟩) hb (fun _ _ e => e) fun F W s1 hsc ho hfrm hh0 hZ0 e1 hw t => ?_
  have ok : OkA 100 (callerA.deeper F.env) := OkA.deeper ⟨rfl, by show 1 + claimMargin + 101 < 1000; unfold claimMargin; omega, by show 4 + 8 * 101 + 100 < 9900; omega⟩
  have fr : (callerA.deeper F.env).frames = some [F.env] := Around.frames_deeper rfl
  refine (law2_body D hsc ho hfrm ok fr is (by omega) p1 p2 p3 p4).run _ W s1 _ _ t fun fl s2 Z2 W2 g2 o2 => ?_
  obtain ⟨v, rfl, rv, _⟩ := o2
  have : v = .bool true := by simpa [Rep] using rv
  subst this
  exact ⟨_, rfl, h s2 (fun b o q => g2.ext.keep b o (fun w => by rw [hw b w] at q; cases q) (e1.keep' b o q)) (g2.ext.os.trans e1.os) (g2.ext.bare (e1.bare hbare))⟩
end
end Mine
namespace Mine

section
variable {φ : Nat → Nat} (R : Ren φ)
include R
theorem cutGo2_map (w : Tx) : ∀ (l : List Nat) (c : Nat), cutGo2 (w.map φ) l c = cutGo2 w l c
  | [], c => rfl
  | k :: r, c => by
    unfold cutGo2
    rw [← List.map_drop, ← List.map_drop, collI_map R, cutGo2_map w r]
theorem cutAt_map (w : Tx) : cutAt (w.map φ) = cutAt w := by
  unfold cutAt
  rw [cutGo2_map R, List.length_map]
theorem textF_map : ∀ (k : Nat) (w : Tx), textF k (w.map φ) = (textF k w).map φ
  | 0, w => rfl
  | k + 1, w => by
    unfold textF
    rw [cutAt_map R, List.length_map]
    split
    · rfl
    · rw [← List.map_take, ← List.map_drop, textF_map k, textF_map k, List.map_append, List.map_append, List.map_append, R.consts [40] (by decide), R.consts [41] (by decide)]
theorem notParA_map (x : Nat) : notParA (φ x) = notParA x := by
  unfold notParA
  have h := subIn_map R [x] [40, 41, 65]
  rw [R.consts [40, 41, 65] (by decide)] at h
  rw [← h]; rfl
theorem get_map (t : Tx) (i n : Nat) (h : n < 97) : ((t.map φ)[i]? == some n) = (t[i]? == some n) := by
  rw [List.getElem?_map]
  cases t[i]? with
  | none => rfl
  | some x =>
    show (some (φ x) == some n) = (some x == some n)
    have := R.const x n h
    rw [Bool.eq_iff_iff] at this ⊢
    simpa using this
theorem frontGo_map (t : Tx) : ∀ f, frontGo (t.map φ) f = frontGo t f
  | 0 => rfl
  | f + 1 => by
    unfold frontGo
    rw [get_map R t f 40 (by decide), frontGo_map t f]
theorem behC_map (t : Tx) (f k b : Nat) : behC (t.map φ) f k b = behC t f k b := by
  unfold behC
  rw [get_map R t _ 41 (by decide), slcN_map R, checkP_map R]
theorem behGo_map (t : Tx) (f k : Nat) : ∀ (l : List Nat) (b : Nat), behGo (t.map φ) f k b l = behGo t f k b l
  | [], b => rfl
  | b' :: r, b => by
    unfold behGo
    rw [behC_map R, behGo_map t f k r]
theorem toldK_map (t : Tx) (f k : Nat) : toldK (t.map φ) f k = toldK t f k := by
  unfold toldK
  rw [behGo_map R, List.length_map, slcN_map R, filter_map R notPar notPar _ (notPar_map R), List.length_map]
theorem toldGo_map (t : Tx) : ∀ l : List Nat, toldGo (t.map φ) l = toldGo t l
  | [] => rfl
  | k :: r => by
    unfold toldGo
    rw [frontGo_map R, toldGo_map t r]
    cases frontGo t k with
    | none => rfl
    | some f => simp only [toldK_map R]
theorem toldPl_map (t : Tx) : toldPl (t.map φ) = toldPl t := by
  unfold toldPl
  rw [List.length_map]
  congr 1
  funext k
  rw [List.getElem?_map]
  cases t[k]? with
  | none => rfl
  | some x => exact notParA_map R x
theorem toldF_map (t : Tx) : toldF (t.map φ) = toldF t := by
  unfold toldF
  rw [toldPl_map R, List.length_map, toldGo_map R]
theorem dueF_map (w : Tx) : dueF (w.map φ) = dueF w := by
  have h : ∀ k, dueL (w.map φ) k = dueL w k := fun k => by
    unfold dueL
    congr 1
    funext j
    rw [← List.map_drop, ← List.map_drop, Bool.eq_iff_iff, decide_eq_true_eq, decide_eq_true_eq, lt_map R]
  unfold dueF
  congr 1
  funext k
  unfold dueK
  rw [h]
theorem told2B_map (w : Tx) : told2B (w.map φ) = told2B w := by
  unfold told2B
  have : (65 :: w.map φ : Tx) = (65 :: w).map φ := by rw [List.map_cons, R.fix 65 (by decide)]
  rw [this, textF_map R, toldF_map R, dueF_map R]
theorem chk2B_map (w : Tx) : chk2B (w.map φ) = chk2B w := by
  unfold chk2B
  have e1 : ([41] ++ w.map φ ++ [40] : Tx) = ([41] ++ w ++ [40]).map φ := by rw [List.map_append, List.map_append, R.consts [41] (by decide), R.consts [40] (by decide)]
  have e2 : ([34, 41] ++ w.map φ ++ [34, 92, 40] : Tx) = ([34, 41] ++ w ++ [34, 92, 40]).map φ := by rw [List.map_append, List.map_append, R.consts [34, 41] (by decide), R.consts [34, 92, 40] (by decide)]
  rw [e1, e2, checkP_map R, checkP_map R]
theorem dotsL (a : Tx) : dots ++ a.map φ = (dots ++ a).map φ := by rw [List.map_append, dots_map R]
theorem dotsR (a : Tx) : a.map φ ++ dots = (a ++ dots).map φ := by rw [List.map_append, dots_map R]
theorem growE_map (w : Tx) (b st : Nat) : ∀ (f e : Nat), growE (w.map φ) b st f e = growE w b st f e
  | 0, e => rfl
  | f + 1, e => by
    unfold growE
    rw [slcN_map R, slcN_map R, dotsL R, ellM_map R, List.length_map, growE_map w b st f]
theorem lessL_map (w : Tx) (b e st : Nat) : lessL (w.map φ) b e st = lessL w b e st := by
  unfold lessL
  congr 1
  funext s
  rw [slcN_map R, slcN_map R, dotsR R, ellM_map R]
theorem endOf_map (w : Tx) (b st : Nat) : endOf (w.map φ) b st = endOf w b st := by
  unfold endOf
  rw [growE_map R, List.length_map]
theorem runsW_map (w : Tx) (st : Nat) : ∀ (f b : Nat) (acc : List (Nat × Nat × Nat)), runsW (w.map φ) st f b acc = runsW w st f b acc
  | 0, b, acc => rfl
  | f + 1, b, acc => by
    unfold runsW
    rw [slcN_map R, slcN_map R, dotsR R, ellM_map R, List.length_map, endOf_map R, lessL_map R, runsW_map w st f, runsW_map w st f]
theorem runsGo_map (w : Tx) : ∀ (l : List Nat) (acc : List (Nat × Nat × Nat)), runsGo (w.map φ) l acc = runsGo w l acc
  | [], acc => rfl
  | st :: r, acc => by
    unfold runsGo
    rw [runsW_map R, List.length_map, runsGo_map w r]
theorem runsF_map (w : Tx) : runsF (w.map φ) = runsF w := by
  unfold runsF
  rw [runsGo_map R, List.length_map]
theorem squaresF_map (w : Tx) : squaresF (w.map φ) = squaresF w := by
  unfold squaresF
  congr 1
  funext st
  unfold sqRow
  have : sqB (w.map φ) st = sqB w st := by
    funext k
    unfold sqB
    rw [slcN_map R, slcN_map R, eqT_map R]
  rw [this]
theorem timesOk_map (r t : Tx) (k : Nat) : timesOk (r.map φ) (t.map φ) k = timesOk r t k := by
  unfold timesOk
  have e : joinT dots (List.replicate k (r.map φ)) = (joinT dots (List.replicate k r)).map φ := by
    rw [← joinSep_map R dots, dots_map R, List.map_replicate]
  rw [e, ellM_map R, dotsL R, dotsR R, ellM_map R]
theorem rootOk_map (w : Tx) (b st : Nat) : rootOk (w.map φ) b st = rootOk w b st := by
  unfold rootOk
  rw [slcN_map R, slcN_map R]
  have h3 : timesOk ((slcN w b (b + st)).map φ) ((slcN w b (b + 2 * st)).map φ) = timesOk (slcN w b (b + st)) (slcN w b (b + 2 * st)) := by
    funext k; exact timesOk_map R _ _ k
  rw [h3, dotsR R, ← List.map_append, ellM_map R, ← List.map_take, dotsL R, dotsR R, ← List.map_append, dotsR R, ellM_map R]
theorem pcGo_map (st : Nat) : ∀ (f : Nat) (row : Tx), pcGo st f (row.map φ) = (pcGo st f row).map (List.map φ)
  | 0, row => rfl
  | f + 1, row => by
    unfold pcGo
    rw [isEmpty_map R, List.length_map, ← List.map_drop, ← List.map_take, pcGo_map st f]
    split <;> rfl
theorem pcF_map (row : Tx) (st : Nat) : pcF (row.map φ) st = (pcF row st).map (List.map φ) := by
  unfold pcF
  rw [List.length_map, pcGo_map R]
theorem pcsOk_map (w : Tx) (b e st : Nat) : pcsOk (w.map φ) b e st = pcsOk w b e st := by
  unfold pcsOk
  rw [slcN_map R, pcF_map R]
  match pcF (slcN w b e) st with
  | [] => rfl
  | [_] => rfl
  | p0 :: p1 :: r =>
    show ((((p0 :: p1 :: r).map (List.map φ)).all fun p => ellM (dots ++ p) (p0.map φ)) && ellM (p1.map φ) (p0.map φ) && (collI (p0.map φ) (p1.map φ) == 0)) = _
    rw [ellM_map R, collI_map R, List.all_map]
    have : ((fun p => ellM (dots ++ p) (p0.map φ)) ∘ List.map φ) = fun p => ellM (dots ++ p) p0 := by
      funext p
      show ellM (dots ++ p.map φ) (p0.map φ) = _
      rw [dotsL R, ellM_map R]
    rw [this]
theorem moreOk_map (w : Tx) (b e st : Nat) : moreOk (w.map φ) b e st = moreOk w b e st := by
  unfold moreOk
  rw [slcN_map R, pcF_map R]
  match pcF (slcN w (b - 1) e) st with
  | [] => rfl
  | m0 :: r =>
    have := lastD_map R (m0 :: r)
    show ((b == 0) || !ellM (dots ++ ((m0 :: r).map (List.map φ)).getLastD []) (m0.map φ)) = _
    rw [this, dotsL R, ellM_map R]
theorem isRunOk_map (w : Tx) (b e st : Nat) : isRunOk (w.map φ) b e st = isRunOk w b e st := by
  unfold isRunOk
  rw [rootOk_map R, pcsOk_map R, moreOk_map R]
theorem hadOk_map (w : Tx) (b e st : Nat) (t0 t1 : List Nat) : hadOk (w.map φ) b e st t0 t1 = hadOk w b e st t0 t1 := by
  have : sideF (w.map φ) e st = sideF w e st := by
    unfold sideF
    rw [List.length_map]
    split
    · rename_i h
      rw [getD_map R w e h, getD_map R w (e - st) (by omega)]
      exact collI_map R [w.getD e 0] [w.getD (e - st) 0]
    · rfl
  unfold hadOk
  rw [this]
end

/-! the mirror: the order of the letters is turned -/
def ltR : Tx → Tx → Bool
  | [], [] => false
  | [], _ :: _ => true
  | _ :: _, [] => false
  | x :: a, y :: b => decide (y < x) || (x == y && ltR a b)
theorem ltR_mir : ∀ (a b : Tx), (∀ x ∈ a, x ≤ 219) → (∀ x ∈ b, x ≤ 219) → decide (mir a < mir b) = ltR a b
  | [], [], _, _ => by simp [mir, ltR]
  | [], y :: b, _, _ => by simp [mir, ltR]
  | x :: a, [], _, _ => by simp [mir, ltR]
  | x :: a, y :: b, ha, hb => by
    have ih := ltR_mir a b (fun z hz => ha z (.tail _ hz)) fun z hz => hb z (.tail _ hz)
    have hx := ha x (.head _)
    have hy := hb y (.head _)
    unfold ltR
    rw [← ih, Bool.eq_iff_iff, decide_eq_true_eq, Bool.or_eq_true, Bool.and_eq_true, decide_eq_true_eq, decide_eq_true_eq, beq_iff_eq]
    show ((219 - x) :: mir a < (219 - y) :: mir b) ↔ _
    rw [List.cons_lt_cons_iff]
    constructor
    · rintro (q | ⟨q, r⟩)
      · exact .inl (by omega)
      · exact .inr ⟨by omega, r⟩
    · rintro (q | ⟨q, r⟩)
      · exact .inl (by omega)
      · exact .inr ⟨by omega, r⟩
def dueLR (w : Tx) (k : Nat) : List Nat := (List.range' (k + 1) (6 - k)).filter fun j => ltR (w.drop j) (w.drop k)
def dueR (w : Tx) : List Nat := (List.range' 0 7).map fun k => (dueLR w k).headD 7 - k
theorem dueR_mir (w : Tx) (h : ∀ x ∈ w, x ≤ 219) : dueF (mir w) = dueR w := by
  have hd : ∀ k, ∀ x ∈ w.drop k, x ≤ 219 := fun k x hx => h x (List.mem_of_mem_drop hx)
  unfold dueF dueR
  congr 1
  funext k
  unfold dueK dueL dueLR
  have : (fun j => decide ((mir w).drop j < (mir w).drop k)) = fun j => ltR (w.drop j) (w.drop k) := by
    funext j
    rw [← ltR_mir _ _ (hd j) (hd k)]
    unfold mir
    rw [List.map_drop, List.map_drop]
  rw [this]
theorem ltR_map {φ : Nat → Nat} (R : Ren φ) : ∀ (a b : Tx), ltR (a.map φ) (b.map φ) = ltR a b
  | [], [] => rfl
  | [], _ :: _ => rfl
  | _ :: _, [] => rfl
  | x :: a, y :: b => by
    simp only [List.map_cons, ltR, R.beq, R.dec, ltR_map R a b]
theorem dueR_map {φ : Nat → Nat} (R : Ren φ) (w : Tx) : dueR (w.map φ) = dueR w := by
  have : ∀ k, dueLR (w.map φ) k = dueLR w k := fun k => by
    unfold dueLR
    congr 1
    funext j
    rw [← List.map_drop, ← List.map_drop, ltR_map R]
  unfold dueR
  congr 1
  funext k
  rw [this]
def runOk2 (w : Tx) (t0 t1 : List Nat) (n : Nat) (r : Nat × Nat × Nat) : Bool := decide (1 ≤ r.2.2) && (decide (r.1 + 2 * r.2.2 ≤ r.2.1) && (decide (r.2.1 ≤ n) && (isRunOk w r.1 r.2.1 r.2.2 && (hadOk w r.1 r.2.1 r.2.2 t0 t1).isSome)))
def law2G (w : Tx) (t0 t1 : List Nat) : Bool := covF (squaresF w) (runsF w) && ((runsF w).all (runOk2 w t0 t1 w.length) && (uniqB (placesF w t0 t1 (runsF w)) && decide ((runsF w).length ≤ 100)))
theorem law2B_eq (w : Tx) (h : ∀ x ∈ w, x ≤ 219) : law2B w = law2G w (dueF w) (dueR w) := by
  unfold law2B
  rw [dueR_mir w h]
  rfl
theorem law2G_map {φ : Nat → Nat} (R : Ren φ) (w : Tx) (t0 t1 : List Nat) : law2G (w.map φ) t0 t1 = law2G w t0 t1 := by
  unfold law2G
  have h1 : runOk2 (w.map φ) t0 t1 (w.map φ).length = runOk2 w t0 t1 w.length := by
    funext r
    unfold runOk2
    rw [isRunOk_map R, hadOk_map R, List.length_map]
  have h2 : placesF (w.map φ) t0 t1 (runsF w) = placesF w t0 t1 (runsF w) := by
    unfold placesF
    congr 1
    funext r
    rw [hadOk_map R]
  rw [squaresF_map R, runsF_map R, h1, h2]
end Mine
namespace Mine

noncomputable section
def rngF (n : Nat) : Nat → List Nat := Nat.rec (motive := fun _ => Nat → List Nat) (fun _ => []) (fun _ ih s => s :: ih (Nat.add s 1)) n
theorem rngF_eq : ∀ (n s : Nat), List.range' s n = rngF n s
  | 0, s => rfl
  | n + 1, s => by
    rw [List.range'_succ, rngF_eq n]; rfl
def isN (o : Option Nat) (n : Nat) : Bool := Option.rec (motive := fun _ => Bool) false (fun x => Nat.beq x n) o
theorem isN_eq (o : Option Nat) (n : Nat) : (o == some n) = isN o n := by
  cases o with
  | none => rfl
  | some x =>
    show _ = Nat.beq x n
    rw [nbeq, Bool.eq_iff_iff]; simp

/-! the text -/
def cutS (s : Tx) : Nat → Nat → Tx → Nat := List.rec (motive := fun _ => Nat → Nat → Tx → Nat) (fun _ cut _ => cut) (fun x t ih k cut best => sel (ltF (x :: t) best) (ih (Nat.add k 1) k (x :: t)) (ih (Nat.add k 1) cut best)) s
theorem cutS_eq (w : Tx) : ∀ (n k cut : Nat), w.length = k + n → cutGo2 w (List.range' k n) cut = cutS (w.drop k) k cut (w.drop cut)
  | 0, k, cut, h => by
    rw [List.drop_of_length_le (by omega)]; rfl
  | n + 1, k, cut, h => by
    have hk : k < w.length := by omega
    rw [List.range'_succ, List.drop_eq_getElem_cons hk]
    show cutGo2 w (List.range' (k + 1) n) (if collI (w.drop k) (w.drop cut) == -1 then k else cut) = sel (ltF (w[k] :: w.drop (k + 1)) (w.drop cut)) (cutS (w.drop (k + 1)) (k + 1) k (w[k] :: w.drop (k + 1))) (cutS (w.drop (k + 1)) (k + 1) cut (w.drop cut))
    rw [cutS_eq w n (k + 1) _ (by omega), coll_m1, List.drop_eq_getElem_cons hk, sel_ite]
    split
    · rw [List.drop_eq_getElem_cons hk]
    · rfl
def cutAtF (w : Tx) : Nat := cutS (dropF 2 w) 2 1 (dropF 1 w)
theorem cutAtF_eq (w : Tx) : cutAt w = cutAtF w := by
  unfold cutAt cutAtF
  rw [← dropF_eq, ← dropF_eq]
  rcases Nat.lt_or_ge w.length 2 with h | h
  · rw [List.drop_of_length_le (show w.length ≤ 2 by omega), show w.length - 2 = 0 by omega]; rfl
  · exact cutS_eq w (w.length - 2) 2 1 (by omega)
def textFF (k : Nat) : Tx → Tx := Nat.rec (motive := fun _ => Tx → Tx) (fun w => w) (fun _ ih w => sel (Nat.beq (lenF w) 1) w (40 :: appF (ih (takeF (cutAtF w) w)) (appF (ih (dropF (cutAtF w) w)) [41]))) k
theorem textFF_eq : ∀ (k : Nat) (w : Tx), textF k w = textFF k w
  | 0, w => rfl
  | k + 1, w => by
    show (if w.length == 1 then w else [40] ++ textF k (w.take (cutAt w)) ++ textF k (w.drop (cutAt w)) ++ [41]) = sel (Nat.beq (lenF w) 1) w (40 :: appF (textFF k (takeF (cutAtF w) w)) (appF (textFF k (dropF (cutAtF w) w)) [41]))
    rw [sel_ite, nbeq, ← lenF_eq, ← appF_eq, ← appF_eq, ← takeF_eq, ← dropF_eq, ← cutAtF_eq, ← textFF_eq k, ← textFF_eq k]
    simp
/-! what it tells -/
def frontF (t : Tx) (f : Nat) : Option Nat := Nat.rec (motive := fun _ => Option Nat) none (fun f ih => sel (isN (nthF t f) 40) ih (some (Nat.add f 1))) f
theorem frontF_eq (t : Tx) : ∀ f, frontGo t f = frontF t f
  | 0 => rfl
  | f + 1 => by
    show (if t[f]? == some 40 then frontGo t f else some (f + 1)) = sel (isN (nthF t f) 40) (frontF t f) (some (f + 1))
    rw [sel_ite, ← isN_eq, ← nthF_eq, frontF_eq t f]
def behCF (t : Tx) (f k b : Nat) : Bool := sel (Nat.beq f k) true (sel (isN (nthF t (Nat.sub b 1)) 41) (checkPF (slF t f b)) false)
theorem behCF_eq (t : Tx) (f k b : Nat) : behC t f k b = behCF t f k b := by
  unfold behC behCF
  rw [sel_or, sel_and, nbeq, ← isN_eq, ← nthF_eq, ← checkPF_eq, ← slF_eq]; rfl
def behF (t : Tx) (f k : Nat) (l : List Nat) : Nat → Nat := List.rec (motive := fun _ => Nat → Nat) (fun b => b) (fun b' _ ih b => sel (behCF t f k b) b (ih b')) l
theorem behF_eq (t : Tx) (f k : Nat) : ∀ (l : List Nat) (b : Nat), behGo t f k b l = behF t f k l b
  | [], b => rfl
  | b' :: r, b => by
    show (if behC t f k b then b else behGo t f k b' r) = sel (behCF t f k b) b (behF t f k r b')
    rw [sel_ite, behCF_eq, behF_eq t f k r]
def notPF (x : Nat) : Bool := sel (Nat.beq x 40) false (sel (Nat.beq x 41) false true)
theorem notPF_eq (x : Nat) : notPar x = notPF x := by
  unfold notPar notPF
  rw [subOne]
  show (!sel (Nat.beq x 40) true (sel (Nat.beq x 41) true false)) = _
  cases Nat.beq x 40 <;> cases Nat.beq x 41 <;> rfl
def notPAF (x : Nat) : Bool := sel (Nat.beq x 40) false (sel (Nat.beq x 41) false (sel (Nat.beq x 65) false true))
theorem notPAF_eq (x : Nat) : notParA x = notPAF x := by
  unfold notParA notPAF
  rw [subOne]
  show (!sel (Nat.beq x 40) true (sel (Nat.beq x 41) true (sel (Nat.beq x 65) true false))) = _
  cases Nat.beq x 40 <;> cases Nat.beq x 41 <;> cases Nat.beq x 65 <;> rfl
def toldKF (t : Tx) (n f k : Nat) : Nat := lenF (filtF notPF (slF t f (behF t f k (rngF (Nat.sub n (Nat.add k 2)) (Nat.add k 2)) (Nat.add k 1))))
theorem toldKF_eq (t : Tx) (f k : Nat) : toldK t f k = toldKF t (lenF t) f k := by
  unfold toldK toldKF
  rw [← lenF_eq, ← filtF_eq, ← slF_eq, ← behF_eq, ← rngF_eq, ← lenF_eq]
  rw [show notPar = notPF from funext notPF_eq]; rfl
def toldGoF (t : Tx) (n : Nat) (l : List Nat) : Option (List Nat) := List.rec (motive := fun _ => Option (List Nat)) (some [])
  (fun k _ ih => Option.rec (motive := fun _ => Option (List Nat)) none (fun f => Option.rec (motive := fun _ => Option (List Nat)) none (fun l => some (toldKF t n f k :: l)) ih) (frontF t k)) l
theorem toldGoF_eq (t : Tx) : ∀ l : List Nat, toldGo t l = toldGoF t (lenF t) l
  | [] => rfl
  | k :: r => by
    show _ = Option.rec (motive := fun _ => Option (List Nat)) none (fun f => Option.rec (motive := fun _ => Option (List Nat)) none (fun l => some (toldKF t (lenF t) f k :: l)) (toldGoF t (lenF t) r)) (frontF t k)
    rw [← toldGoF_eq t r, ← frontF_eq]
    have e : toldGo t (k :: r) = Option.rec (motive := fun _ => Option (List Nat)) none (fun f => Option.rec (motive := fun _ => Option (List Nat)) none (fun l => some (toldK t f k :: l)) (toldGo t r)) (frontGo t k) := by
      rw [toldGo]
      cases frontGo t k with
      | none => rfl
      | some f => cases toldGo t r <;> rfl
    rw [e]
    cases frontGo t k with
    | none => rfl
    | some f =>
      cases toldGo t r with
      | none => rfl
      | some l =>
        show some (toldK t f k :: l) = some (toldKF t (lenF t) f k :: l)
        rw [toldKF_eq]
def plF (s : Tx) : Nat → List Nat := List.rec (motive := fun _ => Nat → List Nat) (fun _ => []) (fun x _ ih k => sel (notPAF x) (k :: ih (Nat.add k 1)) (ih (Nat.add k 1))) s
theorem plF_eq (t : Tx) : ∀ (n k : Nat), t.length = k + n → ((List.range' k n).filter fun k => (match t[k]? with | some x => notParA x | none => false)) = plF (t.drop k) k
  | 0, k, h => by rw [List.drop_of_length_le (by omega)]; rfl
  | n + 1, k, h => by
    have hk : k < t.length := by omega
    rw [List.range'_succ, List.drop_eq_getElem_cons hk, List.filter_cons]
    show _ = sel (notPAF t[k]) (k :: plF (t.drop (k + 1)) (k + 1)) (plF (t.drop (k + 1)) (k + 1))
    rw [← plF_eq t n (k + 1) (by omega), sel_ite, List.getElem?_eq_getElem hk]
    simp only [notPAF_eq]
theorem toldPlF_eq (t : Tx) : toldPl t = plF t 0 := by
  have := plF_eq t t.length 0 (by omega)
  refine Eq.trans ?_ this
  unfold toldPl
  first
    | rfl
    | (congr 1; funext k; cases t[k]? <;> rfl)
def optEq (o : Option (List Nat)) (l : List Nat) : Bool := Option.rec (motive := fun _ => Bool) false (fun x => eqT x l) o
theorem optEq_eq (o : Option (List Nat)) (l : List Nat) : (o == some l) = optEq o l := by
  cases o with
  | none => rfl
  | some x =>
    show _ = eqT x l
    rw [← eqT_eq, Bool.eq_iff_iff]; simp
def dueG (lt : Tx → Tx → Bool) (w : Tx) : List Nat := mapF (fun k => Nat.sub (headF (filtF (fun j => lt (dropF j w) (dropF k w)) (rngF (Nat.sub 6 k) (Nat.add k 1))) 7) k) (rngF 7 0)
theorem dueG_eq (w : Tx) : dueF w = dueG ltF w := by
  unfold dueF dueG
  rw [← rngF_eq, ← mapF_eq]
  congr 1
  funext k
  unfold dueK dueL
  rw [← headF_eq, ← filtF_eq, ← rngF_eq]
  have : (fun j => decide (w.drop j < w.drop k)) = fun j => ltF (dropF j w) (dropF k w) := by
    funext j; rw [ltF_eq, dropF_eq, dropF_eq]
  rw [this]; rfl
def ltRF (a : Tx) : Tx → Bool := List.rec (motive := fun _ => Tx → Bool) (fun b => List.rec (motive := fun _ => Bool) false (fun _ _ _ => true) b) (fun x _ ih b => List.rec (motive := fun _ => Bool) false (fun y t _ => sel (Nat.ble (Nat.succ y) x) true (sel (Nat.beq x y) (ih t) false)) b) a
theorem ltRF_eq : ∀ a b : Tx, ltR a b = ltRF a b
  | [], [] => rfl
  | [], _ :: _ => rfl
  | _ :: _, [] => rfl
  | x :: a, y :: b => by
    show _ = sel (Nat.ble (Nat.succ y) x) true (sel (Nat.beq x y) (ltRF a b) false)
    unfold ltR
    rw [sel_or, sel_and, nblt, nbeq, ltRF_eq a b]
theorem dueGR_eq (w : Tx) : dueR w = dueG ltRF w := by
  unfold dueR dueG
  rw [← rngF_eq, ← mapF_eq]
  congr 1
  funext k
  unfold dueLR
  rw [← headF_eq, ← filtF_eq, ← rngF_eq]
  have : (fun j => ltR (w.drop j) (w.drop k)) = fun j => ltRF (dropF j w) (dropF k w) := by
    funext j; rw [ltRF_eq, dropF_eq, dropF_eq]
  rw [this]; rfl
def toldT (t : Tx) (due : List Nat) : Bool := sel (allF (fun k => Nat.ble (Nat.add k 2) (lenF t)) (plF t 0)) (optEq (toldGoF t (lenF t) (plF t 0)) due) false
theorem toldT_eq (t : Tx) (due : List Nat) : (toldF t == some due) = toldT t due := by
  unfold toldF toldT
  rw [← allF_eq, ← optEq_eq, ← toldGoF_eq, ← toldPlF_eq, sel_ite]
  have : (fun k => decide (k + 1 < t.length)) = fun k => Nat.ble (Nat.add k 2) (lenF t) := by
    funext k
    rw [nble, ← lenF_eq]; rfl
  rw [this]
  split <;> rfl
def told2F (w : Tx) : Bool := toldT (textFF 8 (65 :: w)) (dueG ltF w)
theorem told2F_eq (w : Tx) : told2B w = told2F w := by
  unfold told2B told2F
  rw [toldT_eq, textFF_eq, dueG_eq]
end
end Mine
namespace Mine

noncomputable section
def growF (w : Tx) (n b st : Nat) (f : Nat) : Nat → Nat := Nat.rec (motive := fun _ => Nat → Nat) (fun e => e) (fun _ ih e => sel (Nat.ble (Nat.succ e) n) (sel (ellMF (46 :: 46 :: 46 :: slF w b (Nat.sub (Nat.add e 1) st)) (slF w b (Nat.add e 1))) (ih (Nat.add e 1)) e) e) f
theorem dots_app (a : Tx) : dots ++ a = 46 :: 46 :: 46 :: a := rfl
theorem growF_eq (w : Tx) (b st : Nat) : ∀ (f e : Nat), growE w b st f e = growF w (lenF w) b st f e
  | 0, e => rfl
  | f + 1, e => by
    show (if (decide (e < w.length) && ellM (dots ++ slcN w b (e + 1 - st)) (slcN w b (e + 1))) = true then growE w b st f (e + 1) else e) = sel (Nat.ble (Nat.succ e) (lenF w)) (sel (ellMF (46 :: 46 :: 46 :: slF w b (e + 1 - st)) (slF w b (e + 1))) (growF w (lenF w) b st f (e + 1)) e) e
    rw [ite_and2, sel_ite, sel_ite, nblt, ← lenF_eq, ← ellMF_eq, ← slF_eq, ← slF_eq, ← dots_app]
    rw [growF_eq w b st f (e + 1), ← lenF_eq]
def d3 : Tx := [46, 46, 46]
def lessF (w : Tx) (b e st : Nat) : Bool := allF (fun s => sel (ellMF (appF (slF w (Nat.add b s) e) d3) (slF w b e)) false true) (rngF (Nat.sub st 1) 1)
theorem filter_none {α : Type} (p : α → Bool) (l : List α) : (l.filter p).isEmpty = l.all fun x => !p x := by
  induction l with
  | nil => rfl
  | cons x l ih =>
    rw [List.filter_cons, List.all_cons, ← ih]
    cases p x <;> rfl
theorem lessF_eq (w : Tx) (b e st : Nat) : (lessL w b e st).isEmpty = lessF w b e st := by
  unfold lessL lessF
  rw [filter_none, ← allF_eq, ← rngF_eq]
  have : (fun s => !ellM (slcN w (b + s) e ++ dots) (slcN w b e)) = fun s => sel (ellMF (appF (slF w (Nat.add b s) e) d3) (slF w b e)) false true := by
    funext s
    rw [← ellMF_eq, ← appF_eq, ← slF_eq, ← slF_eq]
    show (!ellM (slcN w (b + s) e ++ dots) (slcN w b e)) = sel (ellM (slcN w (b + s) e ++ dots) (slcN w b e)) false true
    cases ellM (slcN w (b + s) e ++ dots) (slcN w b e) <;> rfl
  rw [this]; rfl
def endF (w : Tx) (n b st : Nat) : Nat := growF w n b st (Nat.sub n (Nat.add b (Nat.mul 2 st))) (Nat.add b (Nat.mul 2 st))
theorem endF_eq (w : Tx) (b st : Nat) : endOf w b st = endF w (lenF w) b st := by
  unfold endOf endF
  rw [growF_eq, ← lenF_eq]; rfl
abbrev R3 := Nat × Nat × Nat
def runsWF (w : Tx) (n st : Nat) (f : Nat) : Nat → List R3 → List R3 := Nat.rec (motive := fun _ => Nat → List R3 → List R3) (fun _ acc => acc)
  (fun _ ih b acc => sel (Nat.ble (Nat.add b (Nat.mul 2 st)) n) (sel (ellMF (appF (slF w (Nat.add b st) (Nat.add b (Nat.mul 2 st))) d3) (slF w b (Nat.add b (Nat.mul 2 st))))
    (ih (Nat.add (Nat.sub (endF w n b st) st) 1) (sel (lessF w b (endF w n b st) st) (appF acc [(b, endF w n b st, st)]) acc)) (ih (Nat.add b 1) acc)) acc) f
theorem runsWF_eq (w : Tx) (st : Nat) : ∀ (f b : Nat) (acc : List R3), runsW w st f b acc = runsWF w (lenF w) st f b acc
  | 0, b, acc => rfl
  | f + 1, b, acc => by
    show (if b + 2 * st ≤ w.length then
      (if ellM (slcN w (b + st) (b + 2 * st) ++ dots) (slcN w b (b + 2 * st)) = true then
        runsW w st f (endOf w b st - st + 1) (if (lessL w b (endOf w b st) st).isEmpty = true then acc ++ [(b, endOf w b st, st)] else acc)
      else runsW w st f (b + 1) acc) else acc) = sel (Nat.ble (b + 2 * st) (lenF w)) (sel (ellMF (appF (slF w (b + st) (b + 2 * st)) d3) (slF w b (b + 2 * st)))
    (runsWF w (lenF w) st f (endF w (lenF w) b st - st + 1) (sel (lessF w b (endF w (lenF w) b st) st) (appF acc [(b, endF w (lenF w) b st, st)]) acc)) (runsWF w (lenF w) st f (b + 1) acc)) acc
    rw [sel_ite, sel_ite, sel_ite, nble, ← endF_eq, ← lessF_eq, ← ellMF_eq, ← appF_eq, ← appF_eq, ← slF_eq, ← slF_eq, ← runsWF_eq w st f, ← runsWF_eq w st f, ← lenF_eq]
    simp only [decide_eq_true_eq]
    rfl
def runsGoF (w : Tx) (n : Nat) (l : List Nat) : List R3 → List R3 := List.rec (motive := fun _ => List R3 → List R3) (fun acc => acc) (fun st _ ih acc => ih (runsWF w n st n 0 acc)) l
theorem runsGoF_eq (w : Tx) : ∀ (l : List Nat) (acc : List R3), runsGo w l acc = runsGoF w (lenF w) l acc
  | [], acc => rfl
  | st :: r, acc => by
    show runsGo w r (runsW w st w.length 0 acc) = runsGoF w (lenF w) r (runsWF w (lenF w) st (lenF w) 0 acc)
    rw [runsGoF_eq w r, runsWF_eq, ← lenF_eq]
def runsFF (w : Tx) : List R3 := runsGoF w (lenF w) (rngF (Nat.div (lenF w) 2) 1) []
theorem runsFF_eq (w : Tx) : runsF w = runsFF w := by
  unfold runsF runsFF
  rw [runsGoF_eq, ← lenF_eq, rngF_eq]; rfl

/-! one run -/
def joinF (sep : Tx) (l : List Tx) : Tx := List.rec (motive := fun _ => Tx) [] (fun a r _ => List.rec (motive := fun _ => Tx → Tx) (fun acc => acc) (fun p _ ih acc => ih (appF acc (appF sep p))) r a) l
theorem joinF_eq (sep : Tx) (l : List Tx) : joinT sep l = joinF sep l := by
  cases l with
  | nil => rfl
  | cons a r =>
    show r.foldl (fun acc p => acc ++ sep ++ p) a = List.rec (motive := fun _ => Tx → Tx) (fun acc => acc) (fun p _ ih acc => ih (appF acc (appF sep p))) r a
    induction r generalizing a with
    | nil => rfl
    | cons p r ih =>
      rw [List.foldl_cons, ih]
      show _ = List.rec (motive := fun _ => Tx → Tx) (fun acc => acc) (fun p _ ih acc => ih (appF acc (appF sep p))) r (appF a (appF sep p))
      rw [← appF_eq, ← appF_eq, List.append_assoc]
def eqB (a b : Bool) : Bool := sel a b (sel b false true)
theorem eqB_eq (a b : Bool) : (a == b) = eqB a b := by cases a <;> cases b <;> rfl
def timesF (root two : Tx) (t : Nat) : Bool := sel (eqB (ellMF (joinF d3 (repF t root)) two) (Nat.beq t 2)) (eqB (ellMF (appF d3 (appF (joinF d3 (repF t root)) d3)) two) (Nat.ble (Nat.succ t) 3)) false
theorem timesF_eq (root two : Tx) (t : Nat) : timesOk root two t = timesF root two t := by
  unfold timesOk timesF
  rw [sel_and, ← eqB_eq, ← eqB_eq, ← ellMF_eq, ← ellMF_eq, ← appF_eq, ← appF_eq, ← joinF_eq, ← repF_eq, nbeq, nblt, List.append_assoc] <;> rfl
def rootF (w : Tx) (b st : Nat) (root two : Tx) : Bool := sel (ellMF (appF root (appF d3 root)) root) false (sel (ellMF (appF d3 (appF (takeF (Nat.add st 1) two) (appF d3 (appF root d3)))) two) false (sel (timesF root two 1) (sel (timesF root two 2) (timesF root two 3) false) false))
theorem rootF_eq (w : Tx) (b st : Nat) : rootOk w b st = rootF w b st (slF w b (Nat.add b st)) (slF w b (Nat.add b (Nat.mul 2 st))) := by
  unfold rootOk rootF
  rw [← slF_eq, ← slF_eq, ← ellMF_eq, ← ellMF_eq, ← appF_eq, ← appF_eq, ← appF_eq, ← appF_eq, ← appF_eq, ← appF_eq, ← takeF_eq, ← timesF_eq, ← timesF_eq, ← timesF_eq]
  show (!ellM (slcN w b (b + st) ++ dots ++ slcN w b (b + st)) (slcN w b (b + st)) && !ellM (dots ++ (slcN w b (b + 2 * st)).take (st + 1) ++ dots ++ slcN w b (b + st) ++ dots) (slcN w b (b + 2 * st)) &&
  (timesOk (slcN w b (b + st)) (slcN w b (b + 2 * st)) 1 && (timesOk (slcN w b (b + st)) (slcN w b (b + 2 * st)) 2 && (timesOk (slcN w b (b + st)) (slcN w b (b + 2 * st)) 3 && true)))) =
   sel (ellM (slcN w b (b + st) ++ (dots ++ slcN w b (b + st))) (slcN w b (b + st))) false (sel (ellM (dots ++ ((slcN w b (b + 2 * st)).take (st + 1) ++ (dots ++ (slcN w b (b + st) ++ dots)))) (slcN w b (b + 2 * st))) false
    (sel (timesOk (slcN w b (b + st)) (slcN w b (b + 2 * st)) 1) (sel (timesOk (slcN w b (b + st)) (slcN w b (b + 2 * st)) 2) (timesOk (slcN w b (b + st)) (slcN w b (b + 2 * st)) 3) false) false))
  simp only [List.append_assoc]
  generalize ellM (slcN w b (b + st) ++ (dots ++ slcN w b (b + st))) (slcN w b (b + st)) = x1
  generalize ellM (dots ++ ((slcN w b (b + 2 * st)).take (st + 1) ++ (dots ++ (slcN w b (b + st) ++ dots)))) (slcN w b (b + 2 * st)) = x2
  generalize timesOk (slcN w b (b + st)) (slcN w b (b + 2 * st)) 1 = x3
  generalize timesOk (slcN w b (b + st)) (slcN w b (b + 2 * st)) 2 = x4
  generalize timesOk (slcN w b (b + st)) (slcN w b (b + 2 * st)) 3 = x5
  cases x1 <;> cases x2 <;> cases x3 <;> cases x4 <;> cases x5 <;> rfl
def pcGoF (st : Nat) (f : Nat) : Tx → List Tx := Nat.rec (motive := fun _ => Tx → List Tx) (fun _ => []) (fun _ ih row => sel (empF row) [] (dropF (Nat.sub (lenF row) st) row :: ih (takeF (Nat.sub (lenF row) st) row))) f
theorem pcGoF_eq (st : Nat) : ∀ (f : Nat) (row : Tx), pcGo st f row = pcGoF st f row
  | 0, row => rfl
  | f + 1, row => by
    show (if row.isEmpty = true then [] else row.drop (row.length - st) :: pcGo st f (row.take (row.length - st))) = sel (empF row) [] (dropF (lenF row - st) row :: pcGoF st f (takeF (lenF row - st) row))
    rw [sel_ite, ← empF_eq, ← lenF_eq, ← dropF_eq, ← takeF_eq, pcGoF_eq st f]
def pcFF (row : Tx) (st : Nat) : List Tx := pcGoF st (Nat.add (lenF row) 2) row
theorem pcFF_eq (row : Tx) (st : Nat) : pcF row st = pcFF row st := by
  unfold pcF pcFF
  rw [pcGoF_eq, ← lenF_eq] <;> rfl
def pcsLF (l : List Tx) : Bool := List.rec (motive := fun _ => Bool) false (fun p0 r0 _ => List.rec (motive := fun _ => Bool) false (fun p1 r _ => sel (allF (fun p => ellMF (appF d3 p) p0) (p0 :: p1 :: r)) (sel (ellMF p1 p0) (eqT p0 p1) false) false) r0) l
theorem pcsF_eq (w : Tx) (b e st : Nat) : pcsOk w b e st = pcsLF (pcFF (slF w b e) st) := by
  unfold pcsOk
  rw [← slF_eq, ← pcFF_eq]
  match pcF (slcN w b e) st with
  | [] => rfl
  | [_] => rfl
  | p0 :: p1 :: r =>
    show (((p0 :: p1 :: r).all fun p => ellM (dots ++ p) p0) && ellM p1 p0 && (collI p0 p1 == 0)) = sel (allF (fun p => ellMF (appF d3 p) p0) (p0 :: p1 :: r)) (sel (ellMF p1 p0) (eqT p0 p1) false) false
    rw [sel_and, sel_and, ← allF_eq, coll_0, ← ellMF_eq, Bool.and_assoc]
    have : (fun p => ellM (dots ++ p) p0) = fun p => ellMF (appF d3 p) p0 := by
      funext p; rw [← ellMF_eq, ← appF_eq]; rfl
    rw [this]
def moreLF (b : Nat) (l : List Tx) : Bool := List.rec (motive := fun _ => Bool) false (fun m0 r _ => sel (Nat.beq b 0) true (sel (ellMF (appF d3 (lastF (m0 :: r) [])) m0) false true)) l
theorem moreF_eq (w : Tx) (b e st : Nat) : moreOk w b e st = moreLF b (pcFF (slF w (Nat.sub b 1) e) st) := by
  unfold moreOk
  rw [← slF_eq, ← pcFF_eq]
  show _ = moreLF b (pcF (slcN w (b - 1) e) st)
  match pcF (slcN w (b - 1) e) st with
  | [] => rfl
  | m0 :: r =>
    show ((b == 0) || !ellM (dots ++ (m0 :: r).getLastD []) m0) = sel (Nat.beq b 0) true (sel (ellMF (appF d3 (lastF (m0 :: r) [])) m0) false true)
    rw [sel_or, nbeq, ← ellMF_eq, ← appF_eq, ← lastF_eq]
    show _ = ((b == 0) || sel (ellM (dots ++ (m0 :: r).getLastD []) m0) false true)
    cases ellM (dots ++ (m0 :: r).getLastD []) m0 <;> rfl
def isRunF (w : Tx) (b e st : Nat) : Bool := sel (rootF w b st (slF w b (Nat.add b st)) (slF w b (Nat.add b (Nat.mul 2 st)))) (sel (pcsLF (pcFF (slF w b e) st)) (moreLF b (pcFF (slF w (Nat.sub b 1) e) st)) false) false
theorem isRunF_eq (w : Tx) (b e st : Nat) : isRunOk w b e st = isRunF w b e st := by
  unfold isRunOk isRunF
  rw [sel_and, sel_and, ← rootF_eq, ← pcsF_eq, ← moreF_eq, Bool.and_assoc]
/-! the rows told -/
def sm1F (w : Tx) (n e st : Nat) : Bool := sel (Nat.ble (Nat.succ e) n) (Nat.ble (Nat.succ (nthD w e 0)) (nthD w (Nat.sub e st) 0)) true
def sp1F (w : Tx) (n e st : Nat) : Bool := sel (Nat.ble (Nat.succ e) n) (Nat.ble (Nat.succ (nthD w (Nat.sub e st) 0)) (nthD w e 0)) false
theorem ltF_one (x y : Nat) : ltF [x] [y] = Nat.ble (Nat.succ x) y := by
  show sel (Nat.ble (Nat.succ x) y) true (sel (Nat.beq x y) false false) = _
  cases Nat.ble (Nat.succ x) y <;> cases Nat.beq x y <;> rfl
theorem sm1_eq (w : Tx) (e st : Nat) : (sideF w e st == -1) = sm1F w (lenF w) e st := by
  unfold sideF sm1F
  rw [sel_ite, nblt, ← lenF_eq, ← nthD_eq, ← nthD_eq, ← ltF_one, ← coll_m1]
  by_cases h : e < w.length
  · rw [if_pos h, if_pos (by simpa using h)]; rfl
  · rw [if_neg h, if_neg (by simpa using h)]; rfl
theorem sp1_eq (w : Tx) (e st : Nat) : (sideF w e st == 1) = sp1F w (lenF w) e st := by
  unfold sideF sp1F
  rw [sel_ite, nblt, ← lenF_eq, ← nthD_eq, ← nthD_eq, ← ltF_one, ← coll_p1]
  by_cases h : e < w.length
  · rw [if_pos h, if_pos (by simpa using h)]; rfl
  · rw [if_neg h, if_neg (by simpa using h)]; rfl
def hadLF (b e st : Nat) (pairs : List Nat) : List Nat := filtF (fun k => isN (nthF pairs k) st) (rngF (Nat.sub (Nat.sub e st) b) (Nat.add b 1))
theorem hadLF_eq (b e st : Nat) (pairs : List Nat) : hadL b e st pairs = hadLF b e st pairs := by
  unfold hadL hadLF
  rw [← filtF_eq, ← rngF_eq]
  have : (fun k => pairs[k]? == some st) = fun k => isN (nthF pairs k) st := by
    funext k; rw [← isN_eq, ← nthF_eq]
  rw [this]; rfl
def rowF (h0 e st : Nat) : List Nat := mapF (fun k => Nat.add h0 (Nat.mul k st)) (rngF (Nat.div (Nat.sub e h0) st) 0)
theorem rowF_eq (h0 e st : Nat) : hadRow h0 e st = rowF h0 e st := by
  unfold hadRow rowF
  rw [← mapF_eq, ← rngF_eq, List.range_eq_range']; rfl
def hadCF (b e st : Nat) (l : List Nat) : Option (List Nat) := List.rec (motive := fun _ => Option (List Nat)) none (fun h0 r _ => sel (Nat.ble h0 (Nat.add b st)) (sel (eqT (h0 :: r) (rowF h0 e st)) (some (h0 :: r)) none) none) l
def hadOkF (w : Tx) (n b e st : Nat) (t0 t1 : List Nat) : Option (List Nat) := sel (sm1F w n e st) (hadCF b e st (hadLF b e st t0)) (sel (sp1F w n e st) (hadCF b e st (hadLF b e st t1)) none)
theorem hadOkF_eq (w : Tx) (b e st : Nat) (t0 t1 : List Nat) : hadOk w b e st t0 t1 = hadOkF w (lenF w) b e st t0 t1 := by
  have hc : ∀ l : List Nat, (match l with | [] => none | h0 :: r => if decide (h0 ≤ b + st) && (h0 :: r == hadRow h0 e st) then some (h0 :: r) else none) = hadCF b e st l := fun l => by
    cases l with
    | nil => rfl
    | cons h0 r =>
      show (if (decide (h0 ≤ b + st) && (h0 :: r == hadRow h0 e st)) = true then some (h0 :: r) else none) = sel (Nat.ble h0 (b + st)) (sel (eqT (h0 :: r) (rowF h0 e st)) (some (h0 :: r)) none) none
      rw [ite_and2, sel_ite, sel_ite, nble, ← eqT_eq, rowF_eq]
  unfold hadOkF
  rw [← sm1_eq, ← sp1_eq, ← hadLF_eq, ← hadLF_eq, ← hc, ← hc]
  unfold hadOk
  cases h1 : sideF w e st == -1 with
  | true => simp only [h1, Bool.true_or, if_true]; rfl
  | false =>
    cases h2 : sideF w e st == 1 with
    | true => simp only [h1, h2, Bool.false_or, if_true]; rfl
    | false => simp only [h1, h2, Bool.false_or]; rfl
def covBF (k st : Nat) (r : R3) : Bool := sel (Nat.ble r.1 k) (sel (Nat.ble (Nat.add k (Nat.mul 2 st)) r.2.1) (Nat.beq (Nat.mod st r.2.2) 0) false) false
theorem covBF_eq (k st : Nat) (r : R3) : covB k st r = covBF k st r := by
  unfold covB covBF
  rw [sel_and, sel_and, nble, nble, nbeq]; rfl
def sqRowF (w : Tx) (st : Nat) : List (Nat × Nat) := mapF (fun k => (k, st)) (filtF (fun k => eqT (slF w k (Nat.add k st)) (slF w (Nat.add k st) (Nat.add k (Nat.mul 2 st)))) (rngF (Nat.sub 8 (Nat.mul 2 st)) 0))
theorem sqRowF_eq (w : Tx) (st : Nat) : sqRow w st = sqRowF w st := by
  unfold sqRow sqRowF
  rw [← mapF_eq, ← filtF_eq, ← rngF_eq]
  have : sqB w st = fun k => eqT (slF w k (Nat.add k st)) (slF w (Nat.add k st) (Nat.add k (Nat.mul 2 st))) := by
    funext k
    unfold sqB
    rw [← eqT_eq, ← slF_eq, ← slF_eq]; rfl
  rw [this]; rfl
def sqF (w : Tx) : List (Nat × Nat) := appF (sqRowF w 1) (appF (sqRowF w 2) (sqRowF w 3))
theorem sqF_eq (w : Tx) : squaresF w = sqF w := by
  unfold squaresF sqF
  rw [← appF_eq, ← appF_eq, ← sqRowF_eq, ← sqRowF_eq, ← sqRowF_eq]
  simp
def uniqF (l : List Nat) : Bool := List.rec (motive := fun _ => Bool) true (fun a r ih => sel (memF a r) false ih) l
theorem uniqF_eq : ∀ l : List Nat, uniqB l = uniqF l
  | [] => rfl
  | a :: r => by
    show (!r.contains a && uniqB r) = sel (memF a r) false (uniqF r)
    rw [← uniqF_eq r]
    have : r.contains a = memF a r := by rw [Bool.eq_iff_iff, memF_iff, List.contains_iff_mem]
    rw [this]
    cases memF a r <;> rfl
def isS (o : Option (List Nat)) : Bool := Option.rec (motive := fun _ => Bool) false (fun _ => true) o
def getO (o : Option (List Nat)) : List Nat := Option.rec (motive := fun _ => List Nat) [] (fun x => x) o
def runOkF (w : Tx) (t0 t1 : List Nat) (n : Nat) (r : R3) : Bool := sel (Nat.ble 1 r.2.2) (sel (Nat.ble (Nat.add r.1 (Nat.mul 2 r.2.2)) r.2.1) (sel (Nat.ble r.2.1 n) (sel (isRunF w r.1 r.2.1 r.2.2) (isS (hadOkF w n r.1 r.2.1 r.2.2 t0 t1)) false) false) false) false
theorem runOkF_eq (w : Tx) (t0 t1 : List Nat) (r : R3) : runOk2 w t0 t1 w.length r = runOkF w t0 t1 (lenF w) r := by
  unfold runOk2 runOkF
  rw [sel_and, sel_and, sel_and, sel_and, nble, nble, nble, ← isRunF_eq, ← hadOkF_eq, ← lenF_eq]
  cases hadOk w r.1 r.2.1 r.2.2 t0 t1 <;> rfl
def plcF (w : Tx) (t0 t1 : List Nat) (n : Nat) (rs : List R3) : List Nat := flatF (mapF (fun r => getO (hadOkF w n r.1 r.2.1 r.2.2 t0 t1)) rs)
theorem plcF_eq (w : Tx) (t0 t1 : List Nat) (rs : List R3) : placesF w t0 t1 rs = plcF w t0 t1 (lenF w) rs := by
  unfold placesF plcF
  rw [← flatF_eq, ← mapF_eq, List.flatMap_def]
  have : (fun r : R3 => (hadOk w r.1 r.2.1 r.2.2 t0 t1).getD []) = fun r => getO (hadOkF w (lenF w) r.1 r.2.1 r.2.2 t0 t1) := by
    funext r
    rw [← hadOkF_eq]
    cases hadOk w r.1 r.2.1 r.2.2 t0 t1 <;> rfl
  rw [this]
def lawRF (w : Tx) (t0 t1 : List Nat) (rs : List R3) : Bool := sel (allF (fun q => anyF (covBF q.1 q.2) rs) (sqF w)) (sel (allF (runOkF w t0 t1 (lenF w)) rs) (sel (uniqF (plcF w t0 t1 (lenF w) rs)) (Nat.ble (lenF rs) 100) false) false) false
theorem lawRF_eq (w : Tx) (t0 t1 : List Nat) : law2G w t0 t1 = lawRF w t0 t1 (runsFF w) := by
  unfold law2G lawRF covF
  rw [sel_and, sel_and, sel_and, ← allF_eq, ← allF_eq, nble, ← runsFF_eq, ← plcF_eq, ← uniqF_eq, ← lenF_eq (runsF w), ← sqF_eq]
  have h1 : runOk2 w t0 t1 w.length = runOkF w t0 t1 (lenF w) := funext (runOkF_eq w t0 t1)
  have h2 : (fun q : Nat × Nat => (runsF w).any (covB q.1 q.2)) = fun q => anyF (covBF q.1 q.2) (runsF w) := by
    funext q
    rw [← anyF_eq]
    congr 1
    funext r
    exact covBF_eq _ _ r
  rw [h1, h2]
def chkBF (w : Tx) : Bool := sel (checkPF (41 :: appF w [40])) false (checkPF (34 :: 41 :: appF w [34, 92, 40]))
theorem chkBF_eq (w : Tx) : chk2B w = chkBF w := by
  unfold chk2B chkBF
  rw [← checkPF_eq, ← checkPF_eq, ← appF_eq, ← appF_eq]
  show (!checkP (41 :: (w ++ [40])) && checkP (34 :: 41 :: (w ++ [34, 92, 40]))) = _
  cases checkP (41 :: (w ++ [40])) <;> rfl
def oneF (w : Tx) : Bool := sel (toldT (textFF 8 (65 :: w)) (dueG ltF w)) (sel (lawRF w (dueG ltF w) (dueG ltRF w) (runsFF w)) (chkBF w) false) false
theorem oneF_ok (w : Tx) (h : oneF w = true) : told2B w = true ∧ law2G w (dueF w) (dueR w) = true ∧ chk2B w = true := by
  unfold oneF at h
  rw [sel_and, sel_and, Bool.and_eq_true, Bool.and_eq_true] at h
  refine ⟨?_, ?_, ?_⟩
  · rw [told2F_eq]; exact h.1
  · rw [lawRF_eq, dueG_eq, dueGR_eq]; exact h.2.1
  · rw [chkBF_eq]; exact h.2.2
end
end Mine
namespace Mine

noncomputable section
def R6 : List Nat := [97, 98, 99, 100, 101, 102]
def denF (l : Tx) : Bool := allF (fun x => sel (Nat.beq x 97) true (memF (Nat.sub x 1) l)) l
theorem denF_eq (l : Tx) : dense l = denF l := by
  unfold dense denF
  rw [← allF_eq]
  congr 1
  funext x
  rw [sel_or, nbeq, Bool.eq_iff_iff, Bool.or_eq_true, Bool.or_eq_true, memF_iff, List.contains_iff_mem]
  rfl
def tab2 (a b : Nat) : Bool := allF (fun c => allF (fun d => allF (fun e => allF (fun f => sel (denF [a, b, c, d, e, f, f]) (oneF [a, b, c, d, e, f, f]) true) R6) R6) R6) R6
theorem t2_aa : tab2 97 97 = true := by decide +kernel
theorem t2_ab : tab2 97 98 = true := by decide +kernel
theorem t2_ac : tab2 97 99 = true := by decide +kernel
theorem t2_ad : tab2 97 100 = true := by decide +kernel
theorem t2_ae : tab2 97 101 = true := by decide +kernel
theorem t2_af : tab2 97 102 = true := by decide +kernel
theorem t2_ba : tab2 98 97 = true := by decide +kernel
theorem t2_bb : tab2 98 98 = true := by decide +kernel
theorem t2_bc : tab2 98 99 = true := by decide +kernel
theorem t2_bd : tab2 98 100 = true := by decide +kernel
theorem t2_be : tab2 98 101 = true := by decide +kernel
theorem t2_bf : tab2 98 102 = true := by decide +kernel
theorem t2_ca : tab2 99 97 = true := by decide +kernel
theorem t2_cb : tab2 99 98 = true := by decide +kernel
theorem t2_cc : tab2 99 99 = true := by decide +kernel
theorem t2_cd : tab2 99 100 = true := by decide +kernel
theorem t2_ce : tab2 99 101 = true := by decide +kernel
theorem t2_cf : tab2 99 102 = true := by decide +kernel
theorem t2_da : tab2 100 97 = true := by decide +kernel
theorem t2_db : tab2 100 98 = true := by decide +kernel
theorem t2_dc : tab2 100 99 = true := by decide +kernel
theorem t2_dd : tab2 100 100 = true := by decide +kernel
theorem t2_de : tab2 100 101 = true := by decide +kernel
theorem t2_df : tab2 100 102 = true := by decide +kernel
theorem t2_ea : tab2 101 97 = true := by decide +kernel
theorem t2_eb : tab2 101 98 = true := by decide +kernel
theorem t2_ec : tab2 101 99 = true := by decide +kernel
theorem t2_ed : tab2 101 100 = true := by decide +kernel
theorem t2_ee : tab2 101 101 = true := by decide +kernel
theorem t2_ef : tab2 101 102 = true := by decide +kernel
theorem t2_fa : tab2 102 97 = true := by decide +kernel
theorem t2_fb : tab2 102 98 = true := by decide +kernel
theorem t2_fc : tab2 102 99 = true := by decide +kernel
theorem t2_fd : tab2 102 100 = true := by decide +kernel
theorem t2_fe : tab2 102 101 = true := by decide +kernel
theorem t2_ff : tab2 102 102 = true := by decide +kernel
theorem mem_R6 (x : Nat) (h : 97 ≤ x ∧ x < 103) : x ∈ R6 := by
  have : x = 97 ∨ x = 98 ∨ x = 99 ∨ x = 100 ∨ x = 101 ∨ x = 102 := by omega
  rcases this with rfl | rfl | rfl | rfl | rfl | rfl <;> decide
theorem tab2_all (a b : Nat) (ha : 97 ≤ a ∧ a < 103) (hb : 97 ≤ b ∧ b < 103) : tab2 a b = true := by
  have h1 : a = 97 ∨ a = 98 ∨ a = 99 ∨ a = 100 ∨ a = 101 ∨ a = 102 := by omega
  have h2 : b = 97 ∨ b = 98 ∨ b = 99 ∨ b = 100 ∨ b = 101 ∨ b = 102 := by omega
  rcases h1 with rfl | rfl | rfl | rfl | rfl | rfl
  · rcases h2 with rfl | rfl | rfl | rfl | rfl | rfl
    · exact t2_aa
    · exact t2_ab
    · exact t2_ac
    · exact t2_ad
    · exact t2_ae
    · exact t2_af
  · rcases h2 with rfl | rfl | rfl | rfl | rfl | rfl
    · exact t2_ba
    · exact t2_bb
    · exact t2_bc
    · exact t2_bd
    · exact t2_be
    · exact t2_bf
  · rcases h2 with rfl | rfl | rfl | rfl | rfl | rfl
    · exact t2_ca
    · exact t2_cb
    · exact t2_cc
    · exact t2_cd
    · exact t2_ce
    · exact t2_cf
  · rcases h2 with rfl | rfl | rfl | rfl | rfl | rfl
    · exact t2_da
    · exact t2_db
    · exact t2_dc
    · exact t2_dd
    · exact t2_de
    · exact t2_df
  · rcases h2 with rfl | rfl | rfl | rfl | rfl | rfl
    · exact t2_ea
    · exact t2_eb
    · exact t2_ec
    · exact t2_ed
    · exact t2_ee
    · exact t2_ef
  · rcases h2 with rfl | rfl | rfl | rfl | rfl | rfl
    · exact t2_fa
    · exact t2_fb
    · exact t2_fc
    · exact t2_fd
    · exact t2_fe
    · exact t2_ff
theorem one_pat (st : Tx) (hl : st.length = 7) (h67 : st[5]? = st[6]?) (hb : ∀ x ∈ st, 97 ≤ x ∧ x < 103) (hd : dense st = true) : oneF st = true := by
  match st, hl with
  | [a, b, c, d, e, f, g], _ =>
    have : f = g := by simpa using h67
    subst this
    have h := tab2_all a b (hb a (by simp)) (hb b (by simp))
    unfold tab2 at h
    rw [← allF_eq, List.all_eq_true] at h
    have h := h c (mem_R6 c (hb c (by simp)))
    rw [← allF_eq, List.all_eq_true] at h
    have h := h d (mem_R6 d (hb d (by simp)))
    rw [← allF_eq, List.all_eq_true] at h
    have h := h e (mem_R6 e (hb e (by simp)))
    rw [← allF_eq, List.all_eq_true] at h
    have h := h f (mem_R6 f (hb f (by simp)))
    rw [← denF_eq, hd] at h
    exact h
end
end Mine
namespace Mine
theorem lastD_mapN (f : Nat → Nat) : ∀ (v : Tx), v ≠ [] → (v.map f).getLastD 0 = f (v.getLastD 0)
  | [], h => absurd rfl h
  | [a], _ => rfl
  | a :: b :: r, _ => lastD_mapN f (b :: r) (by simp)
def dbl (v : Tx) : Tx := v ++ [v.getLastD 0]
theorem dbl_map (f : Nat → Nat) (v : Tx) (h : v ≠ []) : dbl (v.map f) = (dbl v).map f := by
  unfold dbl
  rw [lastD_mapN f v h, List.map_append]; rfl
theorem dense_dbl (st : Tx) (h : st ≠ []) (hd : dense st = true) : dense (dbl st) = true := by
  unfold dense at *
  rw [List.all_eq_true] at *
  intro x hx
  have hx' : x ∈ st := by
    unfold dbl at hx
    rcases List.mem_append.mp hx with q | q
    · exact q
    · rw [List.mem_singleton.mp q]; exact lastD0 h
  have := hd x hx'
  rw [Bool.or_eq_true, List.contains_iff_mem] at *
  exact this.imp id fun q => List.mem_append.mpr (.inl q)
theorem all2 (v : Tx) (hl : v.length = 6) (hv : ∀ x ∈ v, 97 ≤ x ∧ x < 123) : told2B (dbl v) = true ∧ law2G (dbl v) (dueF (dbl v)) (dueR (dbl v)) = true ∧ chk2B (dbl v) = true := by
  obtain ⟨φ, st, R, e, h1, h2, h3⟩ := patt v hv
  rw [hl] at h1 h2
  have hne : st ≠ [] := fun q => by rw [q] at h1; cases h1
  rw [e, dbl_map φ st hne, told2B_map R, chk2B_map R, law2G_map R, dueF_map R, dueR_map R]
  refine oneF_ok _ (one_pat _ ?_ ?_ ?_ (dense_dbl st hne h3))
  · unfold dbl; rw [List.length_append, h1]; rfl
  · match st, h1 with
    | [a, b, c, d, e, f], _ => rfl
  · intro x hx
    unfold dbl at hx
    rcases List.mem_append.mp hx with q | q
    · exact h2 x q
    · rw [List.mem_singleton.mp q]; exact h2 _ (lastD0 hne)
theorem law2_facts (scr : List Int) : told2B (wordF scr) = true ∧ told2B (mir (wordF scr)) = true ∧ chk2B (wordF scr) = true ∧ law2B (wordF scr) = true := by
  have hg : (wordGo scr).length = 6 := by unfold wordGo; rw [foldW_len, numsW_len]; rfl
  have ho : ∀ x ∈ wordGo scr, 97 ≤ x ∧ x < 123 := foldW_ok _ _ (fun x hx => by cases hx)
  have hne : wordGo scr ≠ [] := fun q => by rw [q] at hg; cases hg
  have e : wordF scr = dbl (wordGo scr) := rfl
  have em : mir (wordF scr) = dbl (mir (wordGo scr)) := by
    rw [e]
    unfold mir
    rw [dbl_map _ _ hne]
  obtain ⟨a1, a2, a3⟩ := all2 (wordGo scr) hg ho
  obtain ⟨b1, _, _⟩ := all2 (mir (wordGo scr)) (by rw [mir_len, hg]) (fun x hx => by
    unfold mir at hx
    obtain ⟨y, hy, rfl⟩ := List.mem_map.mp hx
    have := ho y hy
    omega)
  have ok := wordF_ok scr
  refine ⟨by rw [e]; exact a1, by rw [em]; exact b1, by rw [e]; exact a3, ?_⟩
  rw [law2B_eq _ (fun x hx => by have := (ok.ok x hx).2; omega), e]
  exact a2
theorem law2_go {G : Gc} (D : Defs2 G) (hm : dLaw ∈ recsOf G.p) {fa l : Addr} {vs : List Value} {is : List Int} {s : Shared} (hmg : G.mg "law" = some (.ref fa))
    (hL : s.heap.IsList l vs.toArray) (hI : IntsAre vs is) (hl : is.length ≤ 63) (hb : ∀ b o, G.base.get? b = some o → s.heap.get? b = some o) (hg : s.gens = #[]) {Q : Value → Shared → Prop} {E : Value → Shared → Prop}
    (h : ∀ s', (∀ b o, s.heap.get? b = some o → s'.heap.get? b = some o) → s'.os = s.os → AllBare s'.gens → Q (.bool true) s') : wpAny (model G.prog G.w) callerA (call (.ref fa) [.ref l]) Q E s :=
  let ⟨p1, p2, p3, p4⟩ := law2_facts is
  law2_enter D hm hmg hL hI hl hb hg p1 p2 p3 p4 h
end Mine
open PySem PySem.W PyProof.Rows
set_option maxRecDepth 100000 in
set_option maxHeartbeats 8000000 in
theorem PySem.Challenge.cw_wb0028_02_holds : PySem.Challenge.rw_wb0028_02.Holds := by
  w_on
  o_law
  o_head (Hook.none)
  (case hw => w_witness2)
  intro w s₀ s₁ mg mb G Y fa o pm cd doc dV kV ho hd hcd hD hmg hg args vals as hpre hlay hrd hwl hlo
  refine Ground.open G ?_
  intro T B D TE TW
  wrow_args hpre hlay hrd hwl hlo
  clear hd hcd hD
  have hL := ‹Heap.IsList _ _ _›
  have hI := ‹IntsAre _ _›
  have hlen := ‹¬ (_ : Int) < _›
  let Gx : Mine.Gc := ⟨PySem.Challenge.pw_wb0028_02, w, _, _, _, mg, mb, s₁.heap, T⟩
  have nb : Mine.NoB Gx := Mine.nob_of T (by decide +kernel)
  have T1 : Mine.Top1 Gx := ⟨nb, by rfl, by rfl⟩
  have D0 : Mine.Defs Gx := by
    refine ⟨T1, ?_, ?_, ?_, ?_, ?_, ?_⟩
    all_goals (repeat (first | exact List.Mem.head _ | refine List.Mem.tail _ ?_))
  have D1 : Mine.Defs2 Gx := by
    refine ⟨D0, ?_, ?_, ?_, ?_, ?_, ?_, ?_, ?_, ?_⟩
    all_goals (repeat (first | exact List.Mem.head _ | refine List.Mem.tail _ ?_))
  have dl : Mine.dLaw ∈ recsOf Gx.p := by repeat (first | exact List.Mem.head _ | refine List.Mem.tail _ ?_)
  refine Mine.law2_go (G := Gx) D1 dl (fa := fa) hmg hL hI (by omega) (fun b o e => e) hg (fun s' k os bare => ⟨.inl ⟨_, .bool true, [], rfl, ?_, .bool true, ?_, ?_⟩, .of_keep k, os, bare⟩)
  · exact fun _ => rfl
  · clear hmg; wrow_post
  · exact fun _ => ⟨List.nodup_nil, fun a h => by cases h⟩
