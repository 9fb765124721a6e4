import Derived.Test.Qxb6602200aModsPadWalks
/-! The walk of FnNumberReadsBackPadded, one theorem a way. -/
namespace Go.Proofs.Qxb6602200aMods.num
open Go.ChangeShapes Go.WideShapes Go.ChangeAt Go.RowKit
set_option linter.unusedVariables false
set_option maxHeartbeats 400000 in
theorem pad_big (v n lo hi : Int) (s : ByteArray) (w : World) (hbig : 1048576 < s.size) (hmax : s.size ≤ maxLen) :
    Calls Trym.prog 4 #[.int .i64 v, .int .i64 n, .int .i64 lo, .int .i64 hi, .string s] w fun e w' => e = .returned (.bool true) ∧ Below w.heap.size w w' := by
  go_enter Trym.func4, Trym.ntmps4
  go_wp2_with (first
    | (go_at_call 11; refine (bytes11_no _ _ _ _ _ _ hbig hmax).mono ?_; rintro e w' ⟨rfl, rfl⟩))
  go_ret
  exact ⟨rfl, Below.refl _ _⟩
set_option maxHeartbeats 400000 in
theorem pad_neg (v n lo hi : Int) (s : ByteArray) (w : World) (hs : s.size ≤ 1048576) (h : n < 0) :
    Calls Trym.prog 4 #[.int .i64 v, .int .i64 n, .int .i64 lo, .int .i64 hi, .string s] w fun e w' => e = .returned (.bool true) ∧ Below w.heap.size w w' := by
  go_enter Trym.func4, Trym.ntmps4
  go_wp2_with (first
    | (go_at_call 11; refine (bytes11_ok _ _ _ _ _ _ (by omega)).mono ?_; rintro e w' ⟨rfl, rfl⟩))
  go_ret
  exact ⟨rfl, Below.refl _ _⟩
set_option maxHeartbeats 400000 in
theorem pad_nine (v n lo hi : Int) (s : ByteArray) (w : World) (hs : s.size ≤ 1048576) (h : 9 < n) :
    Calls Trym.prog 4 #[.int .i64 v, .int .i64 n, .int .i64 lo, .int .i64 hi, .string s] w fun e w' => e = .returned (.bool true) ∧ Below w.heap.size w w' := by
  go_enter Trym.func4, Trym.ntmps4
  go_wp2_with (first
    | (go_at_call 11; refine (bytes11_ok _ _ _ _ _ _ (by omega)).mono ?_; rintro e w' ⟨rfl, rfl⟩))
  go_ret
  exact ⟨rfl, Below.refl _ _⟩
set_option maxHeartbeats 400000 in
theorem pad_vneg (v n lo hi : Int) (s : ByteArray) (w : World) (hs : s.size ≤ 1048576) (h0 : 0 ≤ n) (h9 : n ≤ 9) (h : v < 0) :
    Calls Trym.prog 4 #[.int .i64 v, .int .i64 n, .int .i64 lo, .int .i64 hi, .string s] w fun e w' => e = .returned (.bool true) ∧ Below w.heap.size w w' := by
  go_enter Trym.func4, Trym.ntmps4
  go_wp2_with (first
    | (go_at_call 11; refine (bytes11_ok _ _ _ _ _ _ (by omega)).mono ?_; rintro e w' ⟨rfl, rfl⟩))
  go_ret
  exact ⟨rfl, Below.refl _ _⟩
set_option maxHeartbeats 400000 in
theorem pad_vbig (v n lo hi : Int) (s : ByteArray) (w : World) (hs : s.size ≤ 1048576) (h0 : 0 ≤ n) (h9 : n ≤ 9) (p : Int) (hp : Hid (P10 n.toNat = p)) (hpb : 1 ≤ p ∧ p ≤ 1000000000) (hv : 0 ≤ v) (h : p ≤ v) :
    Calls Trym.prog 4 #[.int .i64 v, .int .i64 n, .int .i64 lo, .int .i64 hi, .string s] w fun e w' => e = .returned (.bool true) ∧ Below w.heap.size w w' := by
  go_enter Trym.func4, Trym.ntmps4
  go_wp2_with (first
    | (go_at_call 11; refine (bytes11_ok _ _ _ _ _ _ (by omega)).mono ?_; rintro e w' ⟨rfl, rfl⟩)
    | (go_at_call 12; refine (pow10_any _ p _ (by omega) (by omega) hp).mono ?_; rintro e w' ⟨rfl, rfl⟩))
  go_ret
  exact ⟨rfl, Below.refl _ _⟩
set_option maxHeartbeats 400000 in
theorem pad_lo (v n lo hi : Int) (s : ByteArray) (w : World) (hs : s.size ≤ 1048576) (h0 : 0 ≤ n) (h9 : n ≤ 9) (p : Int) (hp : Hid (P10 n.toNat = p)) (hpb : 1 ≤ p ∧ p ≤ 1000000000) (hv : 0 ≤ v) (hvp : v < p) (h : v < lo) :
    Calls Trym.prog 4 #[.int .i64 v, .int .i64 n, .int .i64 lo, .int .i64 hi, .string s] w fun e w' => e = .returned (.bool true) ∧ Below w.heap.size w w' := by
  go_enter Trym.func4, Trym.ntmps4
  go_wp2_with (first
    | (go_at_call 11; refine (bytes11_ok _ _ _ _ _ _ (by omega)).mono ?_; rintro e w' ⟨rfl, rfl⟩)
    | (go_at_call 12; refine (pow10_any _ p _ (by omega) (by omega) hp).mono ?_; rintro e w' ⟨rfl, rfl⟩))
  go_ret
  exact ⟨rfl, Below.refl _ _⟩
set_option maxHeartbeats 400000 in
theorem pad_hi (v n lo hi : Int) (s : ByteArray) (w : World) (hs : s.size ≤ 1048576) (h0 : 0 ≤ n) (h9 : n ≤ 9) (p : Int) (hp : Hid (P10 n.toNat = p)) (hpb : 1 ≤ p ∧ p ≤ 1000000000) (hv : 0 ≤ v) (hvp : v < p) (hlo : lo ≤ v) (h : hi < v) :
    Calls Trym.prog 4 #[.int .i64 v, .int .i64 n, .int .i64 lo, .int .i64 hi, .string s] w fun e w' => e = .returned (.bool true) ∧ Below w.heap.size w w' := by
  go_enter Trym.func4, Trym.ntmps4
  go_wp2_with (first
    | (go_at_call 11; refine (bytes11_ok _ _ _ _ _ _ (by omega)).mono ?_; rintro e w' ⟨rfl, rfl⟩)
    | (go_at_call 12; refine (pow10_any _ p _ (by omega) (by omega) hp).mono ?_; rintro e w' ⟨rfl, rfl⟩))
  go_ret
  exact ⟨rfl, Below.refl _ _⟩
theorem zz_ok_g (S r : ByteArray) (n v lo hi : Int) (w : World) (hv : V S n.toNat = v) (hr : S.extract n.toNat S.size = r) (hs : S.size ≤ 2097152) (h0 : 0 ≤ n) (hn : n ≤ leadS S) (hlo : lo ≤ v) (hhi : v ≤ hi) :
    Calls Trym.prog 8 #[.string S, .bool true, .int .i64 n, .int .i64 lo, .int .i64 hi] w fun e w' =>
      e = .returned (.tuple #[.string r, .bool true, .int .i64 v]) ∧ Below w.heap.size w w' := by
  subst hv hr
  exact zz_ok S n lo hi w hs h0 hn hlo hhi
theorem pad_facts (v n : Int) (s : ByteArray) (hs : s.size ≤ 1048576) (h0 : 0 ≤ n) (h9 : n ≤ 9) (hv : 0 ≤ v) (hvp : v < P10 n.toNat) :
    V (pad v.toNat n.toNat ++ s) n.toNat = v ∧ (pad v.toNat n.toNat ++ s).extract n.toNat (pad v.toNat n.toNat ++ s).size = s ∧ (pad v.toNat n.toNat ++ s).size ≤ 2097152 ∧ n ≤ leadS (pad v.toNat n.toNat ++ s) := by
  have hvn : v.toNat < 10 ^ n.toNat := by unfold P10 at hvp; omega
  obtain ⟨r1, r2, r3⟩ := pad_reads v.toNat n.toNat s hvn (by omega)
  refine ⟨by rw [r2]; omega, r3, ?_, by omega⟩
  rw [ByteArray.size_append, pad_size]; omega
/-- what ZZNumber reads of a padded number -/
theorem zz_pad (v n lo hi : Int) (s : ByteArray) (hs : s.size ≤ 1048576) (h0 : 0 ≤ n) (h9 : n ≤ 9) (hv : 0 ≤ v) (hvp : v < P10 n.toNat) (hlo : lo ≤ v) (hhi : v ≤ hi) (w : World) :
    Calls Trym.prog 8 #[.string (pad v.toNat n.toNat ++ s), .bool true, .int .i64 n, .int .i64 lo, .int .i64 hi] w fun e w' =>
      e = .returned (.tuple #[.string s, .bool true, .int .i64 v]) ∧ Below w.heap.size w w' := by
  obtain ⟨r2, r3, hz, r1⟩ := pad_facts v n s hs h0 h9 hv hvp
  exact zz_ok_g _ s n v lo hi w r2 r3 hz h0 r1 hlo hhi
set_option maxHeartbeats 400000 in
theorem pad_main (v n lo hi : Int) (s : ByteArray) (w : World) (hs : s.size ≤ 1048576) (h0 : 0 ≤ n) (h9 : n ≤ 9) (p : Int) (hp : Hid (P10 n.toNat = p)) (hpb : 1 ≤ p ∧ p ≤ 1000000000) (hv : 0 ≤ v) (hvp : v < p) (hlo : lo ≤ v) (hhi : v ≤ hi) :
    Calls Trym.prog 4 #[.int .i64 v, .int .i64 n, .int .i64 lo, .int .i64 hi, .string s] w fun e w' => e = .returned (.bool true) ∧ Below w.heap.size w w' := by
  have hz : (pad v.toNat n.toNat).size ≤ 9 := by rw [pad_size]; omega
  have HZ : Hid (∀ W : World, Calls Trym.prog 8 #[.string (pad v.toNat n.toNat ++ s), .bool true, .int .i64 n, .int .i64 lo, .int .i64 hi] W fun e w' => e = .returned (.tuple #[.string s, .bool true, .int .i64 v]) ∧ Below W.heap.size W w') :=
    fun W => zz_pad v n lo hi s hs h0 h9 hv (by rw [hp.out]; exact hvp) hlo hhi W
  go_enter Trym.func4, Trym.ntmps4
  go_wp2_with (first
    | (go_at_call 11; refine (bytes11_ok _ _ _ _ _ _ (by omega)).mono ?_; rintro e w' ⟨rfl, rfl⟩)
    | (go_at_call 12; refine (pow10_any _ p _ (by omega) (by omega) hp).mono ?_; rintro e w' ⟨rfl, rfl⟩)
    | (go_at_call 13; refine (padded_any _ _ _ (by omega) (by omega) (by omega) (by omega)).mono ?_; rintro e w1 ⟨rfl, hbel⟩)
    | (go_at_call 8; refine (HZ.out _).mono ?_; rintro e w2 ⟨rfl, hbel2⟩))
  go_ret
  exact ⟨rfl, hbel.trans (hbel2.mono hbel.size)⟩
end Go.Proofs.Qxb6602200aMods.num
