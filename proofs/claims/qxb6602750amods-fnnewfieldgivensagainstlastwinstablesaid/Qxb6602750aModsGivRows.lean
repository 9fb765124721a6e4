import Derived.Test.Qxb6602750aModsGivPlain
import Derived.Laws.IdiomStrings
/-! Rows of keys, of givens and of bools in memory. -/
namespace Go.Proofs.Qxb6602750aMods.giv
open Go.RowKit

theorem set_same {w : World} {a : Addr} {u v : Value} (h : w.cell? a = some u) : (w.setCell a v).cell? a = some v := World.cell?_setCell_same' w a v (by rw [h]; rfl)
theorem set_other {w : World} {a b : Addr} {v : Value} (h : a ≠ b) : (w.setCell a v).cell? b = w.cell? b := World.cell?_setCell_other w a b v h
theorem addr_ne {b i j : Nat} (h : i ≠ j) : (⟨b, i, none⟩ : Addr) ≠ ⟨b, j, none⟩ := fun e => h (by injection e)

/-- no cell of block b is frozen -/
def Free (W : World) (b : Nat) : Prop := ∀ o, W.frozen? ⟨b, o, none⟩ = false
theorem Free.set {W : World} {b : Nat} (h : Free W b) (a : Addr) (v : Value) : Free (W.setCell a v) b := fun o => (World.frozen?_setCell _ _ _ _).trans (h o)
theorem Free.drew {W : World} {b : Nat} (h : Free W b) : Free W.drew b := h
theorem Free.below {W W' : World} {b B : Nat} (h : Free W b) (hb : Below B W W') (hl : b < B) : Free W' b := fun o => (hb.frozen (p := ⟨b, o, none⟩) hl).trans (h o)
theorem free_new (w : World) (C : Array Value) (t : TypeId) : Free (w.alloc (.cells C t)) w.heap.size := by
  intro o; rw [World.frozen?_alloc_mark]; simp

/-! ### keys -/
def RowI (W : World) (b o : Nat) (zs : List Int) : Prop := ∀ i, i < zs.length → W.cell? ⟨b, o + i, none⟩ = some (.int .i32 (kAt zs i))
theorem RowI.below {W W' : World} {b o B : Nat} {zs : List Int} (h : RowI W b o zs) (hb : Below B W W') (hl : b < B) : RowI W' b o zs :=
  fun i hi => (hb.cell (p := ⟨b, o + i, none⟩) hl).trans (h i hi)
theorem RowI.at0 {W : World} {b : Nat} {zs : List Int} (h : RowI W b 0 zs) (i : Nat) (hi : i < zs.length) : W.cell? ⟨b, i, none⟩ = some (.int .i32 (kAt zs i)) := by
  have := h i hi; rwa [Nat.zero_add] at this
/-- the first k cells are the keys; all n are there -/
def PartI (W : World) (b : Nat) (zs : List Int) (k : Nat) : Prop :=
  (∀ i, i < k → W.cell? ⟨b, i, none⟩ = some (.int .i32 (kAt zs i))) ∧ ∀ i, i < zs.length → ∃ v, W.cell? ⟨b, i, none⟩ = some v
theorem PartI.step {W : World} {b k : Nat} {zs : List Int} (h : PartI W b zs k) (hk : k < zs.length) : PartI (W.setCell ⟨b, k, none⟩ (.int .i32 (kAt zs k))) b zs (k + 1) := by
  refine ⟨fun i hi => ?_, fun i hi => ?_⟩
  · by_cases e : i = k
    · subst e; obtain ⟨v, hv⟩ := h.2 i hk; exact set_same hv
    · rw [set_other (addr_ne (fun e' => e e'.symm))]; exact h.1 i (by omega)
  · by_cases e : i = k
    · subst e; obtain ⟨v, hv⟩ := h.2 i hk; exact ⟨_, set_same hv⟩
    · rw [set_other (addr_ne (fun e' => e e'.symm))]; exact h.2 i hi
theorem PartI.whole {W : World} {b : Nat} {zs : List Int} (h : PartI W b zs zs.length) : RowI W b 0 zs := fun i hi => by rw [Nat.zero_add]; exact h.1 i hi
theorem madeI (w : World) (t : TypeId) (zs : List Int) (z : Value) : PartI (w.alloc (.cells (madeCells #[z] zs.length) t)) w.heap.size zs 0 := by
  refine ⟨fun i hi => by omega, fun i hi => ?_⟩
  rw [World.cell?_alloc_mark]
  exact ⟨_, Array.getElem?_eq_getElem (by rw [size_madeCells]; exact hi)⟩

/-! ### givens -/
/-- given g lies at cell o of block b -/
def IsG (W : World) (b o : Nat) (g : G) : Prop :=
  W.cell? ⟨b, o, none⟩ = some (.int .i32 g.1) ∧ W.cell? ⟨b, o + 1, none⟩ = some (.bool g.2.1) ∧ W.cell? ⟨b, o + 2, none⟩ = some (.bool g.2.2.1) ∧
  W.cell? ⟨b, o + 3, none⟩ = some (.bool g.2.2.2.1) ∧ W.cell? ⟨b, o + 4, none⟩ = some (.bool g.2.2.2.2)
theorem IsG.below {W W' : World} {b o B : Nat} {g : G} (h : IsG W b o g) (hb : Below B W W') (hl : b < B) : IsG W' b o g :=
  ⟨(hb.cell (p := ⟨b, o, none⟩) hl).trans h.1, (hb.cell (p := ⟨b, o + 1, none⟩) hl).trans h.2.1, (hb.cell (p := ⟨b, o + 2, none⟩) hl).trans h.2.2.1,
    (hb.cell (p := ⟨b, o + 3, none⟩) hl).trans h.2.2.2.1, (hb.cell (p := ⟨b, o + 4, none⟩) hl).trans h.2.2.2.2⟩
def RowG (W : World) (b o : Nat) (fs : List G) : Prop := ∀ i, i < fs.length → IsG W b (o + i * 5) (gAt fs i)
theorem RowG.below {W W' : World} {b o B : Nat} {fs : List G} (h : RowG W b o fs) (hb : Below B W W') (hl : b < B) : RowG W' b o fs := fun i hi => (h i hi).below hb hl
theorem RowG.at0 {W : World} {b : Nat} {fs : List G} (h : RowG W b 0 fs) (i : Nat) (hi : i < fs.length) : IsG W b (i * 5) (gAt fs i) := by
  have := h i hi; rwa [Nat.zero_add] at this
/-- the world behind a store of a given -/
def put5 (W : World) (b o : Nat) (g : G) : World :=
  ((((W.setCell ⟨b, o, none⟩ (.int .i32 g.1)).setCell ⟨b, o + 1, none⟩ (.bool g.2.1)).setCell ⟨b, o + 2, none⟩ (.bool g.2.2.1)).setCell ⟨b, o + 3, none⟩ (.bool g.2.2.2.1)).setCell ⟨b, o + 4, none⟩ (.bool g.2.2.2.2)
theorem put5_far {W : World} {b o : Nat} {g : G} {c j : Nat} (h : c ≠ b ∨ j < o ∨ o + 5 ≤ j) : (put5 W b o g).cell? ⟨c, j, none⟩ = W.cell? ⟨c, j, none⟩ := by
  have ne : ∀ t, t < 5 → (⟨b, o + t, none⟩ : Addr) ≠ ⟨c, j, none⟩ := by
    intro t ht e
    have e1 : b = c := by injection e
    have e2 : o + t = j := by injection e
    omega
  unfold put5
  rw [set_other (ne 4 (by omega)), set_other (ne 3 (by omega)), set_other (ne 2 (by omega)), set_other (ne 1 (by omega)), set_other (by simpa using ne 0 (by omega))]
theorem put5_isG {W : World} {b o : Nat} {g h : G} (hb : IsG W b o h) : IsG (put5 W b o g) b o g := by
  obtain ⟨h0, h1, h2, h3, h4⟩ := hb
  have ne : ∀ s t : Nat, s ≠ t → (⟨b, o + s, none⟩ : Addr) ≠ ⟨b, o + t, none⟩ := fun s t h => addr_ne (by omega)
  have n0 : ∀ t : Nat, t ≠ 0 → (⟨b, o + t, none⟩ : Addr) ≠ ⟨b, o, none⟩ := fun t h => addr_ne (by omega)
  have m0 : ∀ t : Nat, t ≠ 0 → (⟨b, o, none⟩ : Addr) ≠ ⟨b, o + t, none⟩ := fun t h => addr_ne (by omega)
  unfold put5
  refine ⟨?_, ?_, ?_, ?_, ?_⟩
  · rw [set_other (n0 4 (by omega)), set_other (n0 3 (by omega)), set_other (n0 2 (by omega)), set_other (n0 1 (by omega))]; exact set_same h0
  · rw [set_other (ne 4 1 (by omega)), set_other (ne 3 1 (by omega)), set_other (ne 2 1 (by omega))]
    exact set_same (u := .bool h.2.1) (by rw [set_other (m0 1 (by omega))]; exact h1)
  · rw [set_other (ne 4 2 (by omega)), set_other (ne 3 2 (by omega))]
    exact set_same (u := .bool h.2.2.1) (by rw [set_other (ne 1 2 (by omega)), set_other (m0 2 (by omega))]; exact h2)
  · rw [set_other (ne 4 3 (by omega))]
    exact set_same (u := .bool h.2.2.2.1) (by rw [set_other (ne 2 3 (by omega)), set_other (ne 1 3 (by omega)), set_other (m0 3 (by omega))]; exact h3)
  · exact set_same (u := .bool h.2.2.2.2) (by rw [set_other (ne 3 4 (by omega)), set_other (ne 2 4 (by omega)), set_other (ne 1 4 (by omega)), set_other (m0 4 (by omega))]; exact h4)
theorem Free.put5 {W : World} {b c o : Nat} {g : G} (h : Free W c) : Free (put5 W b o g) c := ((((h.set _ _).set _ _).set _ _).set _ _).set _ _
theorem below_put5 {W W' : World} {B b o : Nat} {g : G} (h : Below B W W') (hb : B ≤ b) : Below B W (put5 W' b o g) := ((((h.setCell hb _).setCell hb _).setCell hb _).setCell hb _).setCell hb _
theorem put5_size {W : World} {b o : Nat} {g : G} : (put5 W b o g).heap.size = W.heap.size := by simp [put5, World.setCell]
theorem RowG.set {W : World} {b : Nat} {fs : List G} (h : RowG W b 0 fs) (i : Nat) (hi : i < fs.length) (g : G) : RowG (put5 W b (i * 5) g) b 0 (fs.set i g) := by
  intro j hj
  rw [List.length_set] at hj
  rw [Nat.zero_add]
  by_cases e : j = i
  · subst e
    rw [gAt_set_same _ _ _ hi]
    exact put5_isG (h.at0 j hi)
  · rw [gAt_set_other _ _ _ _ (fun e' => e e'.symm)]
    have hj0 := h.at0 j hj
    have hfar : ∀ t, t < 5 → i * 5 + 5 ≤ j * 5 + t ∨ j * 5 + t < i * 5 := by intro t ht; omega
    refine ⟨?_, ?_, ?_, ?_, ?_⟩
    · rw [put5_far (.inr (by have := hfar 0; omega))]; exact hj0.1
    · rw [put5_far (.inr (by have := hfar 1; omega))]; exact hj0.2.1
    · rw [put5_far (.inr (by have := hfar 2; omega))]; exact hj0.2.2.1
    · rw [put5_far (.inr (by have := hfar 3; omega))]; exact hj0.2.2.2.1
    · rw [put5_far (.inr (by have := hfar 4; omega))]; exact hj0.2.2.2.2
theorem made_at (z : Array Value) (n i : Nat) (h : i < n) : (madeCells z n)[i]? = some (z[i % z.size]!) := by
  unfold madeCells; simp [h]
theorem madeG (w : World) (t : TypeId) (n : Nat) : RowG (w.alloc (.cells (madeCells #[.int .i32 0, .bool false, .bool false, .bool false, .bool false] (n * 5)) t)) w.heap.size 0 (List.replicate n gz) := by
  intro i hi
  rw [List.length_replicate] at hi
  have hg : gAt (List.replicate n gz) i = gz := by unfold gAt; simp [hi]
  rw [hg, Nat.zero_add]
  refine ⟨?_, ?_, ?_, ?_, ?_⟩
  all_goals
    rw [World.cell?_alloc_mark, made_at _ _ _ (by omega)]
  · show some (#[Value.int .i32 0, .bool false, .bool false, .bool false, .bool false][i * 5 % 5]!) = _
    rw [show i * 5 % 5 = 0 from by omega]; rfl
  · show some (#[Value.int .i32 0, .bool false, .bool false, .bool false, .bool false][(i * 5 + 1) % 5]!) = _
    rw [show (i * 5 + 1) % 5 = 1 from by omega]; rfl
  · show some (#[Value.int .i32 0, .bool false, .bool false, .bool false, .bool false][(i * 5 + 2) % 5]!) = _
    rw [show (i * 5 + 2) % 5 = 2 from by omega]; rfl
  · show some (#[Value.int .i32 0, .bool false, .bool false, .bool false, .bool false][(i * 5 + 3) % 5]!) = _
    rw [show (i * 5 + 3) % 5 = 3 from by omega]; rfl
  · show some (#[Value.int .i32 0, .bool false, .bool false, .bool false, .bool false][(i * 5 + 4) % 5]!) = _
    rw [show (i * 5 + 4) % 5 = 4 from by omega]; rfl

/-! ### bools -/
def RowB (W : World) (b : Nat) (bs : List Bool) : Prop := ∀ i, i < bs.length → W.cell? ⟨b, i, none⟩ = some (.bool (bAt bs i))
theorem RowB.below {W W' : World} {b B : Nat} {bs : List Bool} (h : RowB W b bs) (hb : Below B W W') (hl : b < B) : RowB W' b bs :=
  fun i hi => (hb.cell (p := ⟨b, i, none⟩) hl).trans (h i hi)
theorem RowB.set {W : World} {b : Nat} {bs : List Bool} (h : RowB W b bs) (i : Nat) (hi : i < bs.length) (x : Bool) : RowB (W.setCell ⟨b, i, none⟩ (.bool x)) b (bs.set i x) := by
  intro j hj
  rw [List.length_set] at hj
  by_cases e : j = i
  · subst e
    rw [show bAt (bs.set j x) j = x from by unfold bAt; simp [hi]]
    exact set_same (h j hi)
  · rw [show bAt (bs.set i x) j = bAt bs j from by unfold bAt; simp [show ¬ i = j from fun e' => e e'.symm]]
    rw [set_other (addr_ne (fun e' => e e'.symm))]; exact h j hj
theorem madeB (w : World) (t : TypeId) (n : Nat) : RowB (w.alloc (.cells (madeCells #[.bool false] n) t)) w.heap.size (List.replicate n false) := by
  intro i hi
  rw [List.length_replicate] at hi
  rw [show bAt (List.replicate n false) i = false from by unfold bAt; simp [hi], World.cell?_alloc_mark, made_at _ _ _ hi]
  simp [Nat.mod_one]
end Go.Proofs.Qxb6602750aMods.giv
