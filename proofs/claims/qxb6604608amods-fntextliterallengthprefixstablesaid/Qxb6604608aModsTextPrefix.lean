import Derived.Test.Qxb6604608aModsTextWalks
/-! The walk of FnTextLiteralLengthPrefixStable, one theorem a way. -/
namespace Go.Proofs.Qxb6604608aMods.txt
open Go.ChangeShapes Go.WideShapes Go.ChangeAt Go.RowKit
set_option linter.unusedVariables false
theorem zz_v (s : ByteArray) (r : Int) (w : World) (hs : s.size ≤ 2097152) (hr : Hid (tl s = r)) :
    Calls Trym.prog 9 #[.string s] w fun e w' => e = .returned (.int .i64 r) ∧ w' = w := by
  have e := hr.out
  subst e
  exact zz_any s w hs
set_option maxHeartbeats 400000 in
theorem pre_big (s t : ByteArray) (w : World) (h : 1048576 < s.size + t.size) (hs' : s.size ≤ maxLen) (ht' : t.size ≤ maxLen) :
    Calls Trym.prog 5 #[.string s, .string t] w fun e w' => e = .returned (.bool true) ∧ w' = w := by
  go_enter Trym.func5, Trym.ntmps5
  go_wp2_with (go_at_call 10; refine (bytes10_no _ _ _ h hs' ht').mono ?_; rintro e w' ⟨rfl, rfl⟩)
  go_ret
  exact ⟨rfl, rfl⟩
set_option maxHeartbeats 400000 in
theorem pre_none (s t : ByteArray) (b : Int) (w : World) (h : s.size + t.size ≤ 1048576) (hs : Hid (tl s = -1)) (ht : Hid (tl (s ++ t) = b)) (hb : b = -1) :
    Calls Trym.prog 5 #[.string s, .string t] w fun e w' => e = .returned (.bool true) ∧ w' = w := by
  subst hb
  have hz : (s ++ t).size ≤ 2097152 := by rw [ByteArray.size_append]; omega
  go_enter Trym.func5, Trym.ntmps5
  go_wp2_with (go_at_call 10; refine (bytes10_ok _ _ _ h).mono ?_; rintro e w' ⟨rfl, rfl⟩)
  refine (zz_v s (-1) _ (by omega) hs).mono ?_
  rintro e w' ⟨rfl, rfl⟩
  go_wp2_with fail
  refine (zz_v (s ++ t) (-1) _ hz ht).mono ?_
  rintro e w' ⟨rfl, rfl⟩
  go_wp2
  go_ret
  exact ⟨rfl, rfl⟩
set_option maxHeartbeats 400000 in
theorem pre_more (s t : ByteArray) (b : Int) (w : World) (h : s.size + t.size ≤ 1048576) (hs : Hid (tl s = -1)) (ht : Hid (tl (s ++ t) = b)) (hb1 : (s.size : Int) < b) (hb2 : b ≤ (s.size : Int) + t.size) :
    Calls Trym.prog 5 #[.string s, .string t] w fun e w' => e = .returned (.bool true) ∧ w' = w := by
  have hz : (s ++ t).size ≤ 2097152 := by rw [ByteArray.size_append]; omega
  go_enter Trym.func5, Trym.ntmps5
  go_wp2_with (go_at_call 10; refine (bytes10_ok _ _ _ h).mono ?_; rintro e w' ⟨rfl, rfl⟩)
  refine (zz_v s (-1) _ (by omega) hs).mono ?_
  rintro e w' ⟨rfl, rfl⟩
  go_wp2_with fail
  refine (zz_v (s ++ t) b _ hz ht).mono ?_
  rintro e w' ⟨rfl, rfl⟩
  go_wp2
  go_ret
  exact ⟨rfl, rfl⟩
set_option maxHeartbeats 400000 in
theorem pre_some (s t : ByteArray) (k : Nat) (w : World) (h : s.size + t.size ≤ 1048576) (h1 : 1 ≤ k) (hk : k < s.size) (hs : Hid (tl s = (k : Int) + 1)) (ht : Hid (tl (s ++ t) = (k : Int) + 1))
    (hx : Hid (tl (s.extract 0 (k + 1)) = (k : Int) + 1)) (hc : (s[k]).toNat = 34) :
    Calls Trym.prog 5 #[.string s, .string t] w fun e w' => e = .returned (.bool true) ∧ w' = w := by
  have hz : (s ++ t).size ≤ 2097152 := by rw [ByteArray.size_append]; omega
  go_enter Trym.func5, Trym.ntmps5
  go_wp2_with (go_at_call 10; refine (bytes10_ok _ _ _ h).mono ?_; rintro e w' ⟨rfl, rfl⟩)
  refine (zz_v s ((k : Int) + 1) _ (by omega) hs).mono ?_
  rintro e w' ⟨rfl, rfl⟩
  go_wp2_with fail
  refine (zz_v (s ++ t) ((k : Int) + 1) _ hz ht).mono ?_
  rintro e w' ⟨rfl, rfl⟩
  go_wp2_with fail
  refine (zz_v (s.extract 0 (k + 1)) ((k : Int) + 1) _ (by rw [ByteArray.size_extract]; omega) hx).mono ?_
  rintro e w' ⟨rfl, rfl⟩
  go_wp2
  go_ret
  exact ⟨rfl, rfl⟩
end Go.Proofs.Qxb6604608aMods.txt
