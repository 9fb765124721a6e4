import Derived.WalkKit
/-! The plain laws on text literals: no Go in sight. -/
namespace Go.Proofs.Qxb6604608aMods.txt

/-- the byte at place i; nought behind the end -/
def ch (s : ByteArray) (i : Nat) : Nat := if h : i < s.size then (s[i]).toNat else 0
theorem ch_of (s : ByteArray) (i : Nat) (h : i < s.size) : ch s i = (s[i]).toNat := by unfold ch; rw [dif_pos h]
/-- is place i looked at (not skipped behind a backslash)? -/
def live (s : ByteArray) : Nat → Bool
  | 0 => false
  | 1 => true
  | i + 2 => !(live s (i + 1) && ch s (i + 1) == 92)
def isEnd (s : ByteArray) (i : Nat) : Bool := live s i && ch s i == 34
theorem live_succ (s : ByteArray) (i : Nat) (h : 1 ≤ i) : live s (i + 1) = !(live s i && ch s i == 92) := by
  obtain ⟨k, rfl⟩ : ∃ k, i = k + 1 := ⟨i - 1, by omega⟩
  rfl
/-- no end at 1 .. k-1 -/
def clean (s : ByteArray) (k : Nat) : Prop := ∀ i, 1 ≤ i → i < k → isEnd s i = false
theorem clean_one (s : ByteArray) : clean s 1 := fun i h h' => by omega
theorem clean_succ {s : ByteArray} {k : Nat} (h : clean s k) (he : isEnd s k = false) : clean s (k + 1) := by
  intro i h1 h2
  rcases Nat.lt_or_ge i k with h' | h'
  · exact h i h1 h'
  · have : i = k := by omega
    subst this; exact he

def scan (s : ByteArray) : Nat → Nat → Int
  | 0, _ => -1
  | f + 1, i => if isEnd s i = true then (i : Int) + 1 else scan s f (i + 1)
def tl (s : ByteArray) : Int := scan s (s.size - 1) 1
theorem scan_hit (s : ByteArray) : ∀ (f i j : Nat), i ≤ j → j < i + f → (∀ x, i ≤ x → x < j → isEnd s x = false) → isEnd s j = true → scan s f i = (j : Int) + 1
  | 0, _, _, h1, h2, _, _ => by omega
  | f + 1, i, j, h1, h2, h3, h4 => by
    unfold scan
    by_cases e : i = j
    · subst e; rw [if_pos h4]
    · rw [if_neg (by rw [h3 i (Nat.le_refl _) (by omega)]; simp)]
      exact scan_hit s f (i + 1) j (by omega) (by omega) (fun x hx hx' => h3 x (by omega) hx') h4
theorem scan_none (s : ByteArray) : ∀ (f i : Nat), (∀ x, i ≤ x → x < i + f → isEnd s x = false) → scan s f i = -1
  | 0, _, _ => rfl
  | f + 1, i, h => by
    unfold scan
    rw [if_neg (by rw [h i (Nat.le_refl _) (by omega)]; simp)]
    exact scan_none s f (i + 1) (fun x hx hx' => h x (by omega) (by omega))
theorem tl_hit {s : ByteArray} {k : Nat} (h1 : 1 ≤ k) (hk : k < s.size) (hc : clean s k) (he : isEnd s k = true) : tl s = (k : Int) + 1 :=
  scan_hit s (s.size - 1) 1 k h1 (by omega) hc he
theorem tl_none {s : ByteArray} {k : Nat} (hk : s.size ≤ k) (hc : clean s k) : tl s = -1 :=
  scan_none s (s.size - 1) 1 (fun x h1 h2 => hc x h1 (by omega))
theorem tl_cases (s : ByteArray) : (tl s = -1 ∧ clean s s.size) ∨ ∃ k : Nat, 1 ≤ k ∧ k < s.size ∧ clean s k ∧ isEnd s k = true ∧ tl s = (k : Int) + 1 := by
  have main : ∀ f i, 1 ≤ i → i + f = s.size → clean s i → (clean s s.size) ∨ ∃ k : Nat, 1 ≤ k ∧ k < s.size ∧ clean s k ∧ isEnd s k = true := by
    intro f
    induction f with
    | zero => intro i _ h2 h3; left; rw [← h2]; exact h3
    | succ f ih =>
      intro i h1 h2 h3
      rcases he : isEnd s i with _ | _
      · exact ih (i + 1) (by omega) (by omega) (clean_succ h3 he)
      · exact .inr ⟨i, h1, by omega, h3, he⟩
  rcases Nat.lt_or_ge s.size 1 with h0 | h0
  · have hc : clean s s.size := fun i _ _ => by omega
    exact .inl ⟨tl_none (Nat.le_refl _) hc, hc⟩
  · rcases main (s.size - 1) 1 (Nat.le_refl _) (by omega) (clean_one s) with hc | ⟨k, a, b, c, d⟩
    · exact .inl ⟨tl_none (Nat.le_refl _) hc, hc⟩
    · exact .inr ⟨k, a, b, c, d, tl_hit a b c d⟩

/-! ### only what stands ahead of a place counts -/
theorem live_same (s t : ByteArray) : ∀ i, (∀ k, k < i → ch s k = ch t k) → live s i = live t i
  | 0, _ => rfl
  | 1, _ => rfl
  | i + 2, h => by
    have ih := live_same s t (i + 1) (fun k hk => h k (by omega))
    show (!(live s (i + 1) && ch s (i + 1) == 92)) = !(live t (i + 1) && ch t (i + 1) == 92)
    rw [ih, h (i + 1) (by omega)]
theorem isEnd_same (s t : ByteArray) (i : Nat) (h : ∀ k, k ≤ i → ch s k = ch t k) : isEnd s i = isEnd t i := by
  unfold isEnd; rw [live_same s t i (fun k hk => h k (by omega)), h i (Nat.le_refl _)]
theorem clean_same {s t : ByteArray} {k : Nat} (h : ∀ j, j < k → ch s j = ch t j) (hc : clean s k) : clean t k := by
  intro i h1 h2
  rw [← isEnd_same s t i (fun j hj => h j (by omega))]; exact hc i h1 h2
theorem ch_append (s t : ByteArray) (k : Nat) (h : k < s.size) : ch (s ++ t) k = ch s k := by
  rw [ch_of s k h, ch_of (s ++ t) k (by rw [ByteArray.size_append]; omega)]
  congr 1
  exact ByteArray.getElem_append_left h
theorem ch_extract (s : ByteArray) (n k : Nat) (h : k < n) (hn : n ≤ s.size) : ch (s.extract 0 n) k = ch s k := by
  rw [ch_of s k (by omega), ch_of (s.extract 0 n) k (by rw [ByteArray.size_extract]; omega)]
  congr 1
  simp [ByteArray.getElem_extract]

/-! ### a run of backslashes -/
def run (s : ByteArray) : Nat → Nat
  | 0 => 0
  | 1 => 0
  | i + 2 => if ch s (i + 1) = 92 then run s (i + 1) + 1 else 0
theorem run_one (s : ByteArray) : run s 1 = 0 := rfl
theorem run_hit (s : ByteArray) (i : Nat) (h1 : 1 ≤ i) (h : ch s i = 92) : run s (i + 1) = run s i + 1 := by
  obtain ⟨k, rfl⟩ : ∃ k, i = k + 1 := ⟨i - 1, by omega⟩
  show (if ch s (k + 1) = 92 then run s (k + 1) + 1 else 0) = _
  rw [if_pos h]
theorem run_miss (s : ByteArray) (i : Nat) (h1 : 1 ≤ i) (h : ch s i ≠ 92) : run s (i + 1) = 0 := by
  obtain ⟨k, rfl⟩ : ∃ k, i = k + 1 := ⟨i - 1, by omega⟩
  show (if ch s (k + 1) = 92 then run s (k + 1) + 1 else 0) = _
  rw [if_neg h]
theorem live_run (s : ByteArray) : ∀ i, 1 ≤ i → (live s i = true ↔ run s i % 2 = 0)
  | 0, h => by omega
  | 1, _ => by simp [live, run]
  | i + 2, _ => by
    have ih := live_run s (i + 1) (by omega)
    by_cases hc : ch s (i + 1) = 92
    · rw [run_hit s (i + 1) (by omega) hc, live_succ s (i + 1) (by omega), hc]
      rcases hl : live s (i + 1) with _ | _
      · have : ¬ run s (i + 1) % 2 = 0 := fun e => by rw [ih.2 e] at hl; cases hl
        simp; omega
      · have := ih.1 hl
        simp; omega
    · rw [run_miss s (i + 1) (by omega) hc, live_succ s (i + 1) (by omega)]
      simp [hc]

/-! ### the law on prefixes -/
theorem stable_none (s t : ByteArray) (h : tl s = -1) : tl (s ++ t) = -1 ∨ ((s.size : Int) < tl (s ++ t) ∧ tl (s ++ t) ≤ (s.size : Int) + t.size) := by
  have hc : clean s s.size := by
    rcases tl_cases s with ⟨_, hc⟩ | ⟨k, _, _, _, _, e⟩
    · exact hc
    · omega
  rcases tl_cases (s ++ t) with ⟨e, _⟩ | ⟨k, h1, h2, _, h4, e⟩
  · exact .inl e
  · right
    rw [ByteArray.size_append] at h2
    rcases Nat.lt_or_ge k s.size with hk | hk
    · rw [isEnd_same (s ++ t) s k (fun j hj => ch_append s t j (by omega)), hc k h1 hk] at h4
      cases h4
    · omega
theorem stable_some (s t : ByteArray) (h : tl s ≠ -1) :
    ∃ k : Nat, 1 ≤ k ∧ k < s.size ∧ tl s = (k : Int) + 1 ∧ ch s k = 34 ∧ tl (s ++ t) = (k : Int) + 1 ∧ tl (s.extract 0 (k + 1)) = (k : Int) + 1 := by
  rcases tl_cases s with ⟨e, _⟩ | ⟨k, h1, h2, h3, h4, e⟩
  · exact (h e).elim
  · refine ⟨k, h1, h2, e, ?_, ?_, ?_⟩
    · unfold isEnd at h4; simp at h4; exact h4.2
    · refine tl_hit h1 (by rw [ByteArray.size_append]; omega) (clean_same (fun j hj => (ch_append s t j (by omega)).symm) h3) ?_
      rw [isEnd_same (s ++ t) s k (fun j hj => ch_append s t j (by omega))]; exact h4
    · refine tl_hit h1 (by rw [ByteArray.size_extract]; omega) (clean_same (fun j hj => (ch_extract s (k + 1) j (by omega) (by omega)).symm) h3) ?_
      rw [isEnd_same (s.extract 0 (k + 1)) s k (fun j hj => ch_extract s (k + 1) j (by omega) (by omega))]; exact h4
end Go.Proofs.Qxb6604608aMods.txt
