import Derived.Test.Qxb6604608aModsTextWalks
/-! The walk of FnTextLiteralLengthFirstUnescapedQuote. -/
namespace Go.Proofs.Qxb6604608aMods.txt
open Go.ChangeShapes Go.WideShapes Go.ChangeAt Go.RowKit
set_option linter.unusedVariables false
set_option maxHeartbeats 400000 in
theorem quote_big (s : ByteArray) (w : World) (h : 1048576 < s.size) (hs' : s.size ≤ maxLen) :
    Calls Trym.prog 4 #[.string s] w fun e w' => e = .returned (.bool true) ∧ w' = w := by
  go_enter Trym.func4, Trym.ntmps4
  go_wp2_with (go_at_call 7; refine (bytes7_no _ _ h hs').mono ?_; rintro e w' ⟨rfl, rfl⟩)
  go_ret
  exact ⟨rfl, rfl⟩
theorem zz_q (s : ByteArray) (r : Int) (w : World) (hs : s.size ≤ 2097152) (hr : Hid (tl s = r)) :
    Calls Trym.prog 9 #[.string s] w fun e w' => e = .returned (.int .i64 r) ∧ w' = w := by
  have e := hr.out
  subst e
  exact zz_any s w hs
set_option maxHeartbeats 800000 in
theorem quote_main (s : ByteArray) (w : World) (h : s.size ≤ 1048576) :
    Calls Trym.prog 4 #[.string s] w fun e w' => e = .returned (.bool true) ∧ w' = w := by
  go_enter Trym.func4, Trym.ntmps4
  go_wp2_with (go_at_call 7; refine (bytes7_ok _ _ h).mono ?_; rintro e w' ⟨rfl, rfl⟩)
  go_loop [3, 4] (fun x j => ∃ k : Nat, 1 ≤ k ∧ k ≤ s.size + 1 ∧ clean s k ∧ x = .int .i64 (-1) ∧ j = .int .i64 k) (fun _ j => s.size + 1 - (intOf j).toNat)
  case atStart => exact ⟨1, by omega, by omega, clean_one s, rfl, rfl⟩
  case round =>
    obtain ⟨k, h1, hk, hcl, rfl, rfl⟩ := hrel
    by_cases hlt : k < s.size
    · by_cases hq : (s[k]).toNat = 34
      · rcases hl : live s k with _ | _
        · have HL : Hid (live s k = false) := hl
          have HC : Hid (clean s (k + 1)) := clean_succ hcl (end_dead hl)
          clear hl
          go_wp2_with (go_at_call 8; refine (even_any s k false _ (by omega) h1 (by omega) HL).mono ?_; rintro e w2 ⟨rfl, rfl⟩)
          go_round
          case rel => exact ⟨k + 1, by omega, by omega, HC.out, rfl, by go_num⟩
          case measure => simp [intOf]; omega
        · have HL : Hid (live s k = true) := hl
          have HR : Hid (tl s = (k : Int) + 1) := tl_hit h1 hlt hcl (end_yes hlt hl hq)
          clear hl
          go_wp2_with (first
            | (go_at_call 8; refine (even_any s k true _ (by omega) h1 (by omega) HL).mono ?_; rintro e w2 ⟨rfl, rfl⟩)
            | (go_at_call 9; refine (zz_q s ((k : Int) + 1) _ (by omega) HR).mono ?_; rintro e w2 ⟨rfl, rfl⟩))
          go_ret
          exact ⟨rfl, rfl⟩
      · have HC : Hid (clean s (k + 1)) := clean_succ hcl (end_no hlt hq)
        go_wp2
        go_round
        case rel => exact ⟨k + 1, by omega, by omega, HC.out, rfl, by go_num⟩
        case measure => simp [intOf]; omega
    · have HR : Hid (tl s = -1) := tl_none (by omega) hcl
      go_wp2_with (go_at_call 9; refine (zz_q s (-1) _ (by omega) HR).mono ?_; rintro e w2 ⟨rfl, rfl⟩)
      go_ret
      exact ⟨rfl, rfl⟩
end Go.Proofs.Qxb6604608aMods.txt
