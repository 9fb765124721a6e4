import Derived.Test.Qxb6602200aModsNumZZ
/-! The walk of FnNumberMatchesModel, one theorem a way. -/
namespace Go.Proofs.Qxb6602200aMods.num
open Go.ChangeShapes Go.WideShapes Go.ChangeAt Go.RowKit
set_option linter.unusedVariables false
/-- the value under a name of its own: a walk that meets 'V' unfolded is dear for the kernel -/
theorem fromRight_v (s : ByteArray) (n v : Int) (w : World) (hv : Hid (V s n.toNat = v)) (hs : s.size ≤ 2097152) (h0 : 0 ≤ n) (hn : n ≤ leadS s) :
    Calls Trym.prog 10 #[.string s, .int .i64 n] w fun e w' => e = .returned (.int .i64 v) ∧ w' = w := by
  have := fromRight_any s n w hs h0 hn
  rw [hv.out] at this; exact this
theorem zz_ok_v (s : ByteArray) (n v lo hi : Int) (w : World) (hv : Hid (V s n.toNat = v)) (hs : s.size ≤ 2097152) (h0 : 0 ≤ n) (hn : n ≤ leadS s) (hlo : lo ≤ v) (hhi : v ≤ hi) :
    Calls Trym.prog 8 #[.string s, .bool true, .int .i64 n, .int .i64 lo, .int .i64 hi] w fun e w' =>
      e = .returned (.tuple #[.string (s.extract n.toNat s.size), .bool true, .int .i64 v]) ∧ Below w.heap.size w w' := by
  have := zz_ok s n lo hi w hs h0 hn (by rw [hv.out]; exact hlo) (by rw [hv.out]; exact hhi)
  rw [hv.out] at this; exact this
theorem zz_out_v (s : ByteArray) (n v lo hi : Int) (w : World) (hv : Hid (V s n.toNat = v)) (hs : s.size ≤ 2097152) (h0 : 0 ≤ n) (hn : n ≤ leadS s) (h : v < lo ∨ (lo ≤ v ∧ hi < v)) :
    Calls Trym.prog 8 #[.string s, .bool true, .int .i64 n, .int .i64 lo, .int .i64 hi] w fun e w' =>
      e = .returned (.tuple #[.string s, .bool false, .int .i64 0]) ∧ Below w.heap.size w w' := by
  rw [← hv.out] at h
  exact zz_fail s true n lo hi w hs (.inr ⟨rfl, h0, .inr (.inr (h.elim (fun h => .inl ⟨hn, h⟩) (fun h => .inr ⟨hn, h.1, h.2⟩)))⟩)
set_option maxHeartbeats 400000 in
theorem way_big (a0 : ByteArray) (a1 : Bool) (a2 a3 a4 : Int) (w : World) (hbig : 1048576 < a0.size) (w0 : a0.size ≤ maxLen) :
    Calls Trym.prog 3 #[.string a0, .bool a1, .int .i64 a2, .int .i64 a3, .int .i64 a4] w fun e w' => e = .returned (.bool true) ∧ Below w.heap.size w w' := by
  go_enter Trym.func3, Trym.ntmps3
  go_wp2_with (go_at_call 7; refine (bytes7_no _ _ _ _ _ _ hbig w0).mono ?_; rintro e w' ⟨rfl, rfl⟩)
  go_ret
  exact ⟨rfl, Below.refl _ _⟩
set_option maxHeartbeats 400000 in
theorem way_off (a0 : ByteArray) (a2 a3 a4 : Int) (w : World) (hb1 : -9223372036854775808 ≤ a2) (hb2 : a2 ≤ 9223372036854775807) (hs : a0.size ≤ 1048576)  :
    Calls Trym.prog 3 #[.string a0, .bool false, .int .i64 a2, .int .i64 a3, .int .i64 a4] w fun e w' => e = .returned (.bool true) ∧ Below w.heap.size w w' := by
  have hls := leadS_le a0
  go_enter Trym.func3, Trym.ntmps3
  go_wp2_with (first
    | (go_at_call 7; refine (bytes7_ok _ _ _ _ _ _ (by omega)).mono ?_; rintro e w' ⟨rfl, rfl⟩)
    | (go_at_call 8; refine (zz_fail _ _ _ _ _ _ (by omega) (.inl rfl)).mono ?_; rintro e w1 ⟨rfl, hbel⟩))
  go_ret
  exact ⟨rfl, hbel⟩
set_option maxHeartbeats 400000 in
theorem way_neg (a0 : ByteArray) (a2 a3 a4 : Int) (w : World) (hb1 : -9223372036854775808 ≤ a2) (hb2 : a2 ≤ 9223372036854775807) (hs : a0.size ≤ 1048576) (hneg : a2 < 0) :
    Calls Trym.prog 3 #[.string a0, .bool true, .int .i64 a2, .int .i64 a3, .int .i64 a4] w fun e w' => e = .returned (.bool true) ∧ Below w.heap.size w w' := by
  have hls := leadS_le a0
  go_enter Trym.func3, Trym.ntmps3
  go_wp2_with (first
    | (go_at_call 7; refine (bytes7_ok _ _ _ _ _ _ (by omega)).mono ?_; rintro e w' ⟨rfl, rfl⟩))
  go_ret
  exact ⟨rfl, Below.refl _ _⟩
set_option maxHeartbeats 400000 in
theorem way_len (a0 : ByteArray) (a2 a3 a4 : Int) (w : World) (hb1 : -9223372036854775808 ≤ a2) (hb2 : a2 ≤ 9223372036854775807) (hs : a0.size ≤ 1048576) (h0 : 0 ≤ a2) (hlen : (a0.size : Int) < a2) :
    Calls Trym.prog 3 #[.string a0, .bool true, .int .i64 a2, .int .i64 a3, .int .i64 a4] w fun e w' => e = .returned (.bool true) ∧ Below w.heap.size w w' := by
  have hls := leadS_le a0
  go_enter Trym.func3, Trym.ntmps3
  go_wp2_with (first
    | (go_at_call 7; refine (bytes7_ok _ _ _ _ _ _ (by omega)).mono ?_; rintro e w' ⟨rfl, rfl⟩)
    | (go_at_call 8; refine (zz_fail _ _ _ _ _ _ (by omega) (.inr ⟨rfl, by omega, .inl hlen⟩)).mono ?_; rintro e w1 ⟨rfl, hbel⟩))
  go_ret
  exact ⟨rfl, hbel⟩
set_option maxHeartbeats 400000 in
theorem way_lead (a0 : ByteArray) (a2 a3 a4 : Int) (w : World) (hb1 : -9223372036854775808 ≤ a2) (hb2 : a2 ≤ 9223372036854775807) (hs : a0.size ≤ 1048576) (h0 : 0 ≤ a2) (hlen : a2 ≤ (a0.size : Int)) (hlead : (leadS a0 : Int) < a2) :
    Calls Trym.prog 3 #[.string a0, .bool true, .int .i64 a2, .int .i64 a3, .int .i64 a4] w fun e w' => e = .returned (.bool true) ∧ Below w.heap.size w w' := by
  have hls := leadS_le a0
  go_enter Trym.func3, Trym.ntmps3
  go_wp2_with (first
    | (go_at_call 7; refine (bytes7_ok _ _ _ _ _ _ (by omega)).mono ?_; rintro e w' ⟨rfl, rfl⟩)
    | (go_at_call 8; refine (zz_fail _ _ _ _ _ _ (by omega) (.inr ⟨rfl, by omega, .inr (.inl ⟨by omega, hlead⟩)⟩)).mono ?_; rintro e w1 ⟨rfl, hbel⟩)
    | (go_at_call 9; refine (allDigits_no _ _ _ (by omega) (by omega) hlead).mono ?_; rintro e w2 ⟨rfl, rfl⟩))
  go_ret
  exact ⟨rfl, hbel⟩
set_option maxHeartbeats 400000 in
theorem way_lo (a0 : ByteArray) (a2 a3 a4 : Int) (w : World) (hb1 : -9223372036854775808 ≤ a2) (hb2 : a2 ≤ 9223372036854775807) (hs : a0.size ≤ 1048576) (v : Int) (hv : Hid (V a0 a2.toNat = v)) (h0 : 0 ≤ a2) (hlead : a2 ≤ (leadS a0 : Int)) (hlo : v < a3) :
    Calls Trym.prog 3 #[.string a0, .bool true, .int .i64 a2, .int .i64 a3, .int .i64 a4] w fun e w' => e = .returned (.bool true) ∧ Below w.heap.size w w' := by
  have hls := leadS_le a0
  go_enter Trym.func3, Trym.ntmps3
  go_wp2_with (first
    | (go_at_call 7; refine (bytes7_ok _ _ _ _ _ _ (by omega)).mono ?_; rintro e w' ⟨rfl, rfl⟩)
    | (go_at_call 8; refine (zz_out_v _ _ v _ _ _ hv (by omega) (by omega) (by omega) (by omega)).mono ?_; rintro e w1 ⟨rfl, hbel⟩)
    | (go_at_call 9; refine (allDigits_yes _ _ _ (by omega) (by omega)).mono ?_; rintro e w2 ⟨rfl, rfl⟩)
    | (go_at_call 10; refine (fromRight_v _ _ v _ hv (by omega) (by omega) (by omega)).mono ?_; rintro e w3 ⟨rfl, rfl⟩))
  go_ret
  exact ⟨rfl, hbel⟩
set_option maxHeartbeats 400000 in
theorem way_hi (a0 : ByteArray) (a2 a3 a4 : Int) (w : World) (hb1 : -9223372036854775808 ≤ a2) (hb2 : a2 ≤ 9223372036854775807) (hs : a0.size ≤ 1048576) (v : Int) (hv : Hid (V a0 a2.toNat = v)) (h0 : 0 ≤ a2) (hlead : a2 ≤ (leadS a0 : Int)) (hlo : a3 ≤ v) (hhi : a4 < v) :
    Calls Trym.prog 3 #[.string a0, .bool true, .int .i64 a2, .int .i64 a3, .int .i64 a4] w fun e w' => e = .returned (.bool true) ∧ Below w.heap.size w w' := by
  have hls := leadS_le a0
  go_enter Trym.func3, Trym.ntmps3
  go_wp2_with (first
    | (go_at_call 7; refine (bytes7_ok _ _ _ _ _ _ (by omega)).mono ?_; rintro e w' ⟨rfl, rfl⟩)
    | (go_at_call 8; refine (zz_out_v _ _ v _ _ _ hv (by omega) (by omega) (by omega) (by omega)).mono ?_; rintro e w1 ⟨rfl, hbel⟩)
    | (go_at_call 9; refine (allDigits_yes _ _ _ (by omega) (by omega)).mono ?_; rintro e w2 ⟨rfl, rfl⟩)
    | (go_at_call 10; refine (fromRight_v _ _ v _ hv (by omega) (by omega) (by omega)).mono ?_; rintro e w3 ⟨rfl, rfl⟩))
  go_ret
  exact ⟨rfl, hbel⟩
set_option maxHeartbeats 400000 in
theorem way_ok (a0 : ByteArray) (a2 a3 a4 : Int) (w : World) (hb1 : -9223372036854775808 ≤ a2) (hb2 : a2 ≤ 9223372036854775807) (hs : a0.size ≤ 1048576) (v : Int) (hv : Hid (V a0 a2.toNat = v)) (h0 : 0 ≤ a2) (hlead : a2 ≤ (leadS a0 : Int)) (hlo : a3 ≤ v) (hhi : v ≤ a4) :
    Calls Trym.prog 3 #[.string a0, .bool true, .int .i64 a2, .int .i64 a3, .int .i64 a4] w fun e w' => e = .returned (.bool true) ∧ Below w.heap.size w w' := by
  have hls := leadS_le a0
  go_enter Trym.func3, Trym.ntmps3
  go_wp2_with (first
    | (go_at_call 7; refine (bytes7_ok _ _ _ _ _ _ (by omega)).mono ?_; rintro e w' ⟨rfl, rfl⟩)
    | (go_at_call 8; refine (zz_ok_v _ _ v _ _ _ hv (by omega) (by omega) (by omega) (by omega) (by omega)).mono ?_; rintro e w1 ⟨rfl, hbel⟩)
    | (go_at_call 9; refine (allDigits_yes _ _ _ (by omega) (by omega)).mono ?_; rintro e w2 ⟨rfl, rfl⟩)
    | (go_at_call 10; refine (fromRight_v _ _ v _ hv (by omega) (by omega) (by omega)).mono ?_; rintro e w3 ⟨rfl, rfl⟩))
  go_ret
  exact ⟨rfl, hbel⟩
end Go.Proofs.Qxb6602200aMods.num
