import Derived.Test.Qxb6604608aModsProg
import Derived.Test.Qxb6604608aModsTextPlain
import Derived.WalkKit
import Derived.ProofKit
import Derived.WalkLawsBesides
/-! The walks of textLiteralLength and of its callers' helpers. -/
namespace Go.Proofs.Qxb6604608aMods.txt
open Go.ChangeShapes Go.WideShapes Go.ChangeAt Go.RowKit
set_option linter.unusedVariables false
theorem retI {k : IntKind} {a b : Int} (h : a = b) : Ending.returned (.int k a) = .returned (.int k b) := by rw [h]
theorem bytes7_ok (s : ByteArray) (w : World) (hs : s.size ≤ 1048576) :
    Calls Trym.prog 7 #[.string s] w fun e w' => e = .returned (.bool true) ∧ w' = w := by
  go_enter Trym.func7, Trym.ntmps7
  go_wp2
  go_ret
  exact ⟨rfl, rfl⟩
theorem bytes7_no (s : ByteArray) (w : World) (hs : 1048576 < s.size) (hs' : s.size ≤ maxLen) :
    Calls Trym.prog 7 #[.string s] w fun e w' => e = .returned (.bool false) ∧ w' = w := by
  unfold maxLen at hs'
  go_enter Trym.func7, Trym.ntmps7
  go_wp2
  go_ret
  exact ⟨rfl, rfl⟩
theorem bytes10_ok (s t : ByteArray) (w : World) (hs : s.size + t.size ≤ 1048576) :
    Calls Trym.prog 10 #[.string s, .string t] w fun e w' => e = .returned (.bool true) ∧ w' = w := by
  go_enter Trym.func10, Trym.ntmps10
  go_wp2
  go_ret
  exact ⟨rfl, rfl⟩
theorem bytes10_no (s t : ByteArray) (w : World) (h : 1048576 < s.size + t.size) (hs' : s.size ≤ maxLen) (ht' : t.size ≤ maxLen) :
    Calls Trym.prog 10 #[.string s, .string t] w fun e w' => e = .returned (.bool false) ∧ w' = w := by
  unfold maxLen at hs' ht'
  by_cases h1 : 1048576 < s.size
  · go_enter Trym.func10, Trym.ntmps10
    go_wp2
    go_ret
    exact ⟨rfl, rfl⟩
  · by_cases h2 : 1048576 < t.size
    · go_enter Trym.func10, Trym.ntmps10
      go_wp2
      go_ret
      exact ⟨rfl, rfl⟩
    · go_enter Trym.func10, Trym.ntmps10
      go_wp2
      go_ret
      exact ⟨rfl, rfl⟩
theorem end_yes {s : ByteArray} {k : Nat} (h : k < s.size) (hl : live s k = true) (hc : (s[k]).toNat = 34) : isEnd s k = true := by
  unfold isEnd; rw [hl, ch_of s k h, hc]; rfl
theorem end_no {s : ByteArray} {k : Nat} (h : k < s.size) (hc : (s[k]).toNat ≠ 34) : isEnd s k = false := by
  unfold isEnd; rw [ch_of s k h]; simp [hc]
theorem end_dead {s : ByteArray} {k : Nat} (hl : live s k = false) : isEnd s k = false := by unfold isEnd; rw [hl]; rfl
theorem live_on {s : ByteArray} {k : Nat} (h1 : 1 ≤ k) (h : k < s.size) (hc : (s[k]).toNat ≠ 92) : live s (k + 1) = true := by
  rw [live_succ s k h1, ch_of s k h]; simp [hc]
theorem live_skip {s : ByteArray} {k : Nat} (h1 : 1 ≤ k) (h : k < s.size) (hl : live s k = true) (hc : (s[k]).toNat = 92) : live s (k + 1) = false ∧ live s (k + 2) = true := by
  have e : live s (k + 1) = false := by rw [live_succ s k h1, ch_of s k h, hl, hc]; rfl
  exact ⟨e, by rw [live_succ s (k + 1) (by omega), e]; rfl⟩
set_option maxHeartbeats 400000 in
theorem tll_any (s : ByteArray) (w : World) (hs : s.size ≤ 2097152) :
    Calls Trym.prog 12 #[.string s] w fun e w' => e = .returned (.int .i64 (tl s)) ∧ w' = w := by
  go_enter Trym.func12, Trym.ntmps12
  go_wp2
  go_loop [3] (fun i => ∃ k : Nat, 1 ≤ k ∧ k ≤ s.size + 1 ∧ live s k = true ∧ clean s k ∧ i = .int .i64 k) (fun i => s.size + 1 - (intOf i).toNat)
  case atStart => exact ⟨1, by omega, by omega, rfl, clean_one s, rfl⟩
  case round =>
    obtain ⟨k, h1, hk, hl, hcl, rfl⟩ := hrel
    by_cases hlt : k < s.size
    · by_cases hbs : (s[k]).toNat = 92
      · have HS : Hid (live s (k + 1) = false ∧ live s (k + 2) = true) := live_skip h1 hlt hl hbs
        have hne : isEnd s k = false := end_no hlt (by omega)
        have HC : Hid (clean s (k + 2)) := clean_succ (clean_succ hcl hne) (end_dead HS.out.1)
        clear hne
        go_wp2
        go_round
        case rel => exact ⟨k + 2, by omega, by omega, HS.out.2, HC.out, by go_num⟩
        case measure => simp [intOf]; omega
      · by_cases hq : (s[k]).toNat = 34
        · have H : Hid (tl s = (k : Int) + 1) := tl_hit h1 hlt hcl (end_yes hlt hl hq)
          go_wp2
          go_ret
          exact ⟨retI H.out.symm, rfl⟩
        · have HC : Hid (clean s (k + 1) ∧ live s (k + 1) = true) := ⟨clean_succ hcl (end_no hlt hq), live_on h1 hlt hbs⟩
          go_wp2
          go_round
          case rel => exact ⟨k + 1, by omega, by omega, HC.out.2, HC.out.1, by go_num⟩
          case measure => simp [intOf]; omega
    · have H : Hid (tl s = -1) := tl_none (by omega) hcl
      go_wp2
      go_ret
      exact ⟨retI H.out.symm, rfl⟩
theorem zz_any (s : ByteArray) (w : World) (hs : s.size ≤ 2097152) :
    Calls Trym.prog 9 #[.string s] w fun e w' => e = .returned (.int .i64 (tl s)) ∧ w' = w := by
  go_enter Trym.func9, Trym.ntmps9
  go_wp2_with (go_at_call 12; refine (tll_any _ _ hs).mono ?_; rintro e w' ⟨rfl, rfl⟩)
  go_ret
  exact ⟨rfl, rfl⟩
theorem retB {a b : Bool} (h : a = b) : Ending.returned (.bool a) = .returned (.bool b) := by rw [h]
theorem par {b : Bool} {r m : Nat} (h : b = decide (r % 2 = 0)) (e : r = m) : (((m : Int) % 2 == 0) : Bool) = b := by
  subst e h
  rw [Bool.eq_iff_iff]; simp; omega
set_option maxHeartbeats 400000 in
theorem even_any (s : ByteArray) (j : Nat) (b : Bool) (w : World) (hs : s.size ≤ 2097152) (h1 : 1 ≤ j) (hj : j ≤ s.size) (hb : Hid (live s j = b)) :
    Calls Trym.prog 8 #[.string s, .int .i64 j] w fun e w' => e = .returned (.bool b) ∧ w' = w := by
  have HR : Hid (b = decide (run s j % 2 = 0)) := by
    have := live_run s j h1
    rw [hb.out] at this
    show b = decide (run s j % 2 = 0)
    rw [Bool.eq_iff_iff, decide_eq_true_iff]; exact this
  go_enter Trym.func8, Trym.ntmps8
  go_wp2
  go_loop [5, 6] (fun n k => ∃ m : Nat, m + 1 ≤ j ∧ Hid (run s j = m + run s (j - m)) ∧ n = .int .i64 m ∧ k = .int .i64 ((j : Int) - 1 - m)) (fun _ k => (intOf k).toNat)
  case atStart => exact ⟨0, by omega, (by simp : run s j = 0 + run s (j - 0)), rfl, by go_num⟩
  case round =>
    obtain ⟨m, hm, hr, rfl, rfl⟩ := hrel
    by_cases hk : m + 1 < j
    · by_cases hc : (s[j - 1 - m]).toNat = 92
      · have HN : Hid (run s j = (m + 1) + run s (j - (m + 1))) := by
          have := hr.out
          rw [show j - m = (j - (m + 1)) + 1 from by omega, run_hit s (j - (m + 1)) (by omega) (by rw [ch_of s _ (by omega)]; simpa [show j - (m + 1) = j - 1 - m from by omega] using hc)] at this
          show run s j = _
          omega
        go_wp2
        go_round
        case rel => exact ⟨m + 1, by omega, HN, by go_num, congrArg (Value.int .i64) (by omega)⟩
        case measure => simp [intOf]; omega
      · have HN : Hid (run s j = m) := by
          have := hr.out
          rw [show j - m = (j - (m + 1)) + 1 from by omega, run_miss s (j - (m + 1)) (by omega) (by rw [ch_of s _ (by omega)]; simpa [show j - (m + 1) = j - 1 - m from by omega] using hc)] at this
          exact this
        go_wp2
        go_ret
        exact ⟨retB (par HR.out HN.out), rfl⟩
    · have HN : Hid (run s j = m) := by
        have := hr.out
        rw [show j - m = 1 from by omega, run_one] at this
        exact this
      go_wp2
      go_ret
      exact ⟨retB (par HR.out HN.out), rfl⟩
end Go.Proofs.Qxb6604608aMods.txt
