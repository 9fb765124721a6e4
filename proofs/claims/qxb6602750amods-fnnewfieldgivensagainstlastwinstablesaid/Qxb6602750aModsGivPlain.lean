import Derived.WalkKit
import Derived.Maps.OwnSet
/-! The plain laws on last-wins tables: no Go in sight. -/
namespace Go.Proofs.Qxb6602750aMods.giv
open Go.RowKit Go.Maps

/-- one given: its number and its four bools -/
abbrev G := Int × Bool × Bool × Bool × Bool
def gz : G := (0, false, false, false, false)
def gAt (fs : List G) (i : Nat) : G := fs.getD i gz
def kAt (zs : List Int) (i : Nat) : Int := zs.getD i 0

/-! ### the last of a key -/
/-- of the first n keys none behind place i is i's -/
def LastIn (zs : List Int) (n i : Nat) : Prop := ∀ j, i < j → j < n → kAt zs j ≠ kAt zs i
def lastB (zs : List Int) (i : Nat) : Bool := !(zs.drop (i + 1)).contains (kAt zs i)
theorem kAt_of {zs : List Int} {i : Nat} (h : i < zs.length) : kAt zs i = zs[i] := by
  unfold kAt; simp [List.getElem?_eq_getElem h]
theorem mem_drop_iff (zs : List Int) (i : Nat) (x : Int) : x ∈ zs.drop i ↔ ∃ j, i ≤ j ∧ j < zs.length ∧ kAt zs j = x := by
  constructor
  · intro h
    obtain ⟨j, hj, e⟩ := List.mem_iff_getElem.1 h
    rw [List.length_drop] at hj
    rw [List.getElem_drop] at e
    exact ⟨i + j, by omega, by omega, by rw [kAt_of (by omega)]; exact e⟩
  · rintro ⟨j, h1, h2, e⟩
    rw [kAt_of h2] at e
    rw [List.mem_iff_getElem]
    exact ⟨j - i, by rw [List.length_drop]; omega, by rw [List.getElem_drop]; simp only [show i + (j - i) = j from by omega]; exact e⟩
theorem lastB_true {zs : List Int} {i : Nat} : lastB zs i = true ↔ LastIn zs zs.length i := by
  unfold lastB LastIn
  rw [Bool.not_eq_true', ← Bool.not_eq_true, List.contains_iff_mem, mem_drop_iff]
  constructor
  · intro h j h1 h2 e
    exact h ⟨j, by omega, h2, e⟩
  · rintro h ⟨j, h1, h2, e⟩
    exact h j (by omega) h2 e

/-! ### how many different keys -/
def dist : List Int → Nat
  | [] => 0
  | x :: t => (if x ∈ t then 0 else 1) + dist t
theorem dist_snoc : ∀ (t : List Int) (x : Int), dist (t ++ [x]) = dist t + (if x ∈ t then 0 else 1)
  | [], x => by simp [dist]
  | y :: t, x => by
    have ih := dist_snoc t x
    rw [List.cons_append, dist, dist, ih]
    by_cases e : y = x
    · subst e
      simp; omega
    · have e' : ¬ x = y := fun h => e h.symm
      simp only [List.mem_append, List.mem_cons, List.not_mem_nil, or_false, e, e', false_or]
      omega
theorem drop_cons (zs : List Int) (k : Nat) (h : k < zs.length) : zs.drop k = kAt zs k :: zs.drop (k + 1) := by
  rw [List.drop_eq_getElem_cons h, kAt_of h]
theorem dist_drop (zs : List Int) (k : Nat) (h : k < zs.length) : dist (zs.drop k) = (if lastB zs k = true then 1 else 0) + dist (zs.drop (k + 1)) := by
  rw [drop_cons zs k h, dist]
  congr 1
  unfold lastB
  by_cases e : kAt zs k ∈ zs.drop (k + 1)
  · rw [if_pos e, if_neg (by simp [e])]
  · rw [if_neg e, if_pos (by simp [e])]
theorem dist_le : ∀ l : List Int, dist l ≤ l.length
  | [] => Nat.le_refl _
  | x :: t => by have := dist_le t; simp only [dist, List.length_cons]; split <;> omega

/-! ### the map -/
def gd (g : G) : DataW Unit := .agg [.lit (.int .i32 g.1), .lit (.bool g.2.1), .lit (.bool g.2.2.1), .lit (.bool g.2.2.2.1), .lit (.bool g.2.2.2.2)]
theorem gd_inj {g h : G} (e : gd g = gd h) : g = h := by
  obtain ⟨a, b, c, d, f⟩ := g
  obtain ⟨a', b', c', d', f'⟩ := h
  simp [gd] at e
  simp [e]
def kl (x : Int) : Lit := .int .i32 x
theorem kl_ne {x y : Int} (h : x ≠ y) : kl x ≠ kl y := by
  intro e; unfold kl at e; exact h (by injection e)
def mp (zs : List Int) (fs : List G) : Nat → DataW Unit
  | 0 => .map []
  | k + 1 => (mp zs fs k).put (kl (kAt zs k)) (gd (gAt fs k))
theorem isKey (x : Int) : WideAt.IsKeyLit (kl x) := trivial
theorem mp_tidy (zs : List Int) (fs : List G) : ∀ k, Tidy (mp zs fs k)
  | 0 => tidy_empty
  | k + 1 => (mp_tidy zs fs k).put (isKey _) _
theorem mp_last (zs : List Int) (fs : List G) (z : DataW Unit) : ∀ (k i : Nat), i < k → LastIn zs k i → has (mp zs fs k) (kl (kAt zs i)) = true ∧ (mp zs fs k).atKey (kl (kAt zs i)) z = gd (gAt fs i)
  | 0, _, h, _ => by omega
  | k + 1, i, h, hl => by
    by_cases e : i = k
    · subst e
      exact ⟨has_put_same (mp_tidy zs fs i).isMap (isKey _) _, atKey_put_same (mp_tidy zs fs i).isMap (isKey _) _ _⟩
    · have hne : kAt zs i ≠ kAt zs k := fun e' => hl k (by omega) (by omega) e'.symm
      have ih := mp_last zs fs z k i (by omega) (fun j h1 h2 => hl j h1 (by omega))
      exact ⟨by rw [mp, has_put_other (kl_ne hne)]; exact ih.1, by rw [mp, atKey_put_other (kl_ne hne)]; exact ih.2⟩
theorem take_snoc (zs : List Int) (k : Nat) (h : k < zs.length) : zs.take (k + 1) = zs.take k ++ [kAt zs k] := by
  rw [List.take_succ_eq_append_getElem h, kAt_of h]
theorem mp_has (zs : List Int) (fs : List G) (x : Int) : ∀ k, k ≤ zs.length → (has (mp zs fs k) (kl x) = true ↔ x ∈ zs.take k)
  | 0, _ => by simp [mp, has]
  | k + 1, h => by
    rw [take_snoc zs k (by omega), mp]
    by_cases e : x = kAt zs k
    · subst e
      simp [has_put_same (mp_tidy zs fs k).isMap (isKey _)]
    · rw [has_put_other (kl_ne e), mp_has zs fs x k (by omega)]
      simp [e]
theorem mp_size (zs : List Int) (fs : List G) : ∀ k, k ≤ zs.length → size (mp zs fs k) = dist (zs.take k)
  | 0, _ => by simp [mp, size, dist]
  | k + 1, h => by
    have hh := mp_has zs fs (kAt zs k) k (by omega)
    rw [take_snoc zs k (by omega), dist_snoc, mp, size_put (mp_tidy zs fs k), mp_size zs fs k (by omega)]
    by_cases e : kAt zs k ∈ zs.take k
    · rw [if_pos e, if_pos (hh.2 e)]; rfl
    · rw [if_neg e, if_neg (fun h => e (hh.1 h))]

/-! ### the slice -/
/-- the place of key i -/
def pl (zs : List Int) (lo : Int) (i : Nat) : Nat := (kAt zs i - lo).toNat
def dn (zs : List Int) (fs : List G) (lo : Int) (c : Nat) : Nat → List G
  | 0 => List.replicate c gz
  | k + 1 => (dn zs fs lo c k).set (pl zs lo k) (gAt fs k)
theorem dn_len (zs : List Int) (fs : List G) (lo : Int) (c : Nat) : ∀ k, (dn zs fs lo c k).length = c
  | 0 => by simp [dn]
  | k + 1 => by rw [dn, List.length_set, dn_len zs fs lo c k]
theorem gAt_set_same (l : List G) (i : Nat) (g : G) (h : i < l.length) : gAt (l.set i g) i = g := by unfold gAt; simp [h]
theorem gAt_set_other (l : List G) (i j : Nat) (g : G) (h : i ≠ j) : gAt (l.set i g) j = gAt l j := by unfold gAt; simp [h]
theorem dn_last (zs : List Int) (fs : List G) (lo : Int) (c : Nat) : ∀ (k i : Nat), i < k → LastIn zs k i → (∀ j, j < k → lo ≤ kAt zs j) → pl zs lo i < c → gAt (dn zs fs lo c k) (pl zs lo i) = gAt fs i
  | 0, _, h, _, _, _ => by omega
  | k + 1, i, h, hl, hlo, hc => by
    by_cases e : i = k
    · subst e
      rw [dn, gAt_set_same _ _ _ (by rw [dn_len]; exact hc)]
    · have hne : kAt zs i ≠ kAt zs k := fun e' => hl k (by omega) (by omega) e'.symm
      have hp : pl zs lo k ≠ pl zs lo i := by
        have h1 := hlo k (by omega)
        have h2 := hlo i (by omega)
        unfold pl; omega
      rw [dn, gAt_set_other _ _ _ _ hp]
      exact dn_last zs fs lo c k i (by omega) (fun j h1 h2 => hl j h1 (by omega)) (fun j hj => hlo j (by omega)) hc
theorem dn_miss (zs : List Int) (fs : List G) (lo : Int) (c p : Nat) : ∀ k, (∀ i, i < k → pl zs lo i ≠ p) → gAt (dn zs fs lo c k) p = gz
  | 0, _ => by
    unfold gAt dn
    rw [List.getD_eq_getElem?_getD, List.getElem?_replicate]
    split <;> rfl
  | k + 1, h => by
    rw [dn, gAt_set_other _ _ _ _ (h k (by omega))]
    exact dn_miss zs fs lo c p k (fun i hi => h i (by omega))
/-- which places have been hit -/
def bAt (l : List Bool) (i : Nat) : Bool := l.getD i false
def ht (zs : List Int) (lo : Int) (c : Nat) : Nat → List Bool
  | 0 => List.replicate c false
  | k + 1 => (ht zs lo c k).set (pl zs lo k) true
theorem ht_len (zs : List Int) (lo : Int) (c : Nat) : ∀ k, (ht zs lo c k).length = c
  | 0 => by simp [ht]
  | k + 1 => by rw [ht, List.length_set, ht_len zs lo c k]
theorem ht_miss (zs : List Int) (lo : Int) (c p : Nat) (hp : p < c) : ∀ k, bAt (ht zs lo c k) p = false → ∀ i, i < k → pl zs lo i ≠ p
  | 0, _, i, hi => by omega
  | k + 1, h, i, hi => by
    rw [ht] at h
    by_cases e : pl zs lo k = p
    · exfalso
      unfold bAt at h
      rw [e] at h
      have hl := ht_len zs lo c k
      simp [hl, hp] at h
    · have h' : bAt (ht zs lo c k) p = false := by
        unfold bAt at h ⊢
        simpa [List.getElem?_set, e] using h
      by_cases e2 : i = k
      · subst e2; exact e
      · exact ht_miss zs lo c p hp k h' i (by omega)

/-! ### the least and the greatest -/
def mnT (zs : List Int) : Nat → Int
  | 0 => kAt zs 0
  | k + 1 => min (mnT zs k) (kAt zs (k + 1))
def mxT (zs : List Int) : Nat → Int
  | 0 => kAt zs 0
  | k + 1 => max (mxT zs k) (kAt zs (k + 1))
theorem mnT_le (zs : List Int) : ∀ k i, i ≤ k → mnT zs k ≤ kAt zs i
  | 0, i, h => by rw [show i = 0 from by omega]; exact Int.le_refl _
  | k + 1, i, h => by
    unfold mnT
    by_cases e : i = k + 1
    · subst e; omega
    · have := mnT_le zs k i (by omega); omega
theorem le_mxT (zs : List Int) : ∀ k i, i ≤ k → kAt zs i ≤ mxT zs k
  | 0, i, h => by rw [show i = 0 from by omega]; exact Int.le_refl _
  | k + 1, i, h => by
    unfold mxT
    by_cases e : i = k + 1
    · subst e; omega
    · have := le_mxT zs k i (by omega); omega
/-- every key fits an int32 -/
def Fits (zs : List Int) : Prop := ∀ i, -2147483648 ≤ kAt zs i ∧ kAt zs i ≤ 2147483647
theorem mnT_bd {zs : List Int} (h : Fits zs) : ∀ k, -2147483648 ≤ mnT zs k ∧ mnT zs k ≤ 2147483647
  | 0 => h 0
  | k + 1 => by have h1 := mnT_bd h k; have h2 := h (k + 1); unfold mnT; omega
theorem mxT_bd {zs : List Int} (h : Fits zs) : ∀ k, -2147483648 ≤ mxT zs k ∧ mxT zs k ≤ 2147483647
  | 0 => h 0
  | k + 1 => by have h1 := mxT_bd h k; have h2 := h (k + 1); unfold mxT; omega
theorem mn_le_mx (zs : List Int) (k : Nat) : mnT zs k ≤ mxT zs k := Int.le_trans (mnT_le zs k 0 (by omega)) (le_mxT zs k 0 (by omega))
end Go.Proofs.Qxb6602750aMods.giv
