import Derived.Test.Qxb6602200aModsNumZZ
import Derived.Test.Qxb6602200aModsPadPlain
/-! The walks of numPow10, numPadded and FnNumberReadsBackPadded. -/
namespace Go.Proofs.Qxb6602200aMods.num
open Go.ChangeShapes Go.WideShapes Go.ChangeAt Go.RowKit
set_option linter.unusedVariables false
theorem bytes11_ok (v n lo hi : Int) (s : ByteArray) (w : World) (hs : s.size ≤ 1048576) :
    Calls Trym.prog 11 #[.int .i64 v, .int .i64 n, .int .i64 lo, .int .i64 hi, .string s] w fun e w' => e = .returned (.bool true) ∧ w' = w := by
  go_enter Trym.func11, Trym.ntmps11
  go_wp2
  go_ret
  exact ⟨rfl, rfl⟩
theorem bytes11_no (v n lo hi : Int) (s : ByteArray) (w : World) (hs : 1048576 < s.size) (hs' : s.size ≤ maxLen) :
    Calls Trym.prog 11 #[.int .i64 v, .int .i64 n, .int .i64 lo, .int .i64 hi, .string s] w fun e w' => e = .returned (.bool false) ∧ w' = w := by
  unfold maxLen at hs'
  go_enter Trym.func11, Trym.ntmps11
  go_wp2
  go_ret
  exact ⟨rfl, rfl⟩
theorem pow10_any (n p : Int) (w : World) (h0 : 0 ≤ n) (h9 : n ≤ 9) (hp : Hid (P10 n.toNat = p)) :
    Calls Trym.prog 12 #[.int .i64 n] w fun e w' => e = .returned (.int .i64 p) ∧ w' = w := by
  go_enter Trym.func12, Trym.ntmps12
  go_wp2
  go_loop [3, 4] (fun q i => ∃ k : Nat, (k : Int) ≤ n ∧ i = .int .i64 k ∧ q = .int .i64 (P10 k)) (fun _ i => (n - intOf i).toNat)
  case atStart => exact ⟨0, by omega, rfl, by rw [P10_zero]⟩
  case round =>
    obtain ⟨k, hk, rfl, rfl⟩ := hrel
    have hb := P10_bd k (by omega)
    by_cases hlt : (k : Int) < n
    · go_wp2
      go_round
      case rel => exact ⟨k + 1, by omega, by go_num, by rw [← P10_succ]⟩
      case measure => simp [intOf]; omega
    · go_wp2
      go_ret
      exact ⟨retI (by rw [← hp.out, show n.toNat = k from by omega]), rfl⟩
theorem Trym.info5 : (Trym.prog.info? 5).map (fun i => (i.zero, i.size, i.bytes)) = some (some (.int .u8 0), 1, 1) := by kernel_rfl
def sh (v : Int) (m : Nat) : Int := ((v.toNat / 10 ^ m : Nat) : Int)
theorem sh_zero (v : Int) (h : 0 ≤ v) : sh v 0 = v := by unfold sh; simp; omega
theorem sh_succ (v : Int) (m : Nat) : sh v m / 10 = sh v (m + 1) := by
  unfold sh; rw [Nat.pow_succ, ← Nat.div_div_eq_div_mul]; omega
theorem sh_bd (v : Int) (m : Nat) (h : v ≤ 1000000000) : 0 ≤ sh v m ∧ sh v m ≤ 1000000000 := by
  have h1 : v.toNat / 10 ^ m ≤ v.toNat := Nat.div_le_self _ _
  show 0 ≤ ((v.toNat / 10 ^ m : Nat) : Int) ∧ ((v.toNat / 10 ^ m : Nat) : Int) ≤ 1000000000
  generalize v.toNat / 10 ^ m = q at h1 ⊢
  omega
theorem sh_digit (v : Int) (m : Nat) : 48 + sh v m % 10 = ((48 + v.toNat / 10 ^ m % 10 : Nat) : Int) := by
  unfold sh; omega
theorem own_row {W : World} {g n : Nat} {xs : List Int} {base : Nat} (h : W.ownsRow base 5 1 (.slice (some ⟨g, 0, none⟩) n n) n (xs.map (Value.int .u8))) (hx : xs.length = n) :
    (∀ i, i < n → W.cell? ⟨g, 0 + i, none⟩ = some (.int .u8 (xs.getD i 0))) := by
  intro i hi
  rw [Nat.zero_add, h.cellAt i (by omega)]
  simp [List.getElem?_eq_getElem (show i < xs.length by omega)]
theorem made_row (n : Nat) : (madeCells #[Value.int .u8 0] n).toList = (List.replicate n (0 : Int)).map (Value.int .u8) := by
  rw [toList_madeCells_one]; simp
theorem retS {a b : ByteArray} (h : a = b) : Ending.returned (.string a) = .returned (.string b) := by rw [h]
set_option maxHeartbeats 800000 in
theorem padded_any (v n : Int) (w : World) (hv0 : 0 ≤ v) (hv : v ≤ 1000000000) (h0 : 0 ≤ n) (h9 : n ≤ 9) :
    Calls Trym.prog 13 #[.int .i64 v, .int .i64 n] w fun e w' => e = .returned (.string (pad v.toNat n.toNat)) ∧ Below w.heap.size w w' := by
  obtain ⟨i0, hi, hz0, hz1, hz2⟩ := info_parts Trym.info5
  have hmk := run_make (P := Trym.prog) w 45 5 i0 (.int .u8 0) Trym.underlying45 hi hz0 .i64 .i64 n n (by omega) (by omega) (by rw [hz2]; omega) (by omega)
  rw [hz1] at hmk
  clear hi hz0 hz1 hz2
  go_enter Trym.func13, Trym.ntmps13
  go_wp2
  clear hmk
  go_loopw [6, 7] (fun x j wr => ∃ m : Nat, (m : Int) ≤ n ∧ x = .int .i64 (sh v m) ∧ j = .int .i64 (n - 1 - m) ∧
      wr.ownsRow w.heap.size 5 1 (.slice (some ⟨w.heap.size, 0, none⟩) n.toNat n.toNat) n.toNat ((row v.toNat n.toNat m).map (Value.int .u8)) ∧ Below w.heap.size w wr)
    (fun _ j _ => (intOf j + 1).toNat)
  case atStart =>
    refine ⟨0, by omega, by rw [sh_zero v hv0], by go_num, ?_, (Below.refl _ _).alloc (Nat.le_refl _) _⟩
    rw [row_zero, ← made_row]
    have := World.ownsRow_lit (base := w.heap.size) (e := 5) (size := 1) w (madeCells #[Value.int .u8 0] n.toNat) n.toNat (Nat.le_refl _) (by unfold maxLen; omega) (by rw [size_madeCells]; omega)
    exact this
  case round =>
    obtain ⟨m, hm, rfl, rfl, hown, hgr⟩ := hrel
    by_cases hgo : (m : Int) < n
    · have hxl := sh_bd v m hv
      have hc0 := own_row hown (row_len v.toNat n.toNat m (by omega)) (n.toNat - 1 - m) (by omega)
      rw [Nat.zero_add] at hc0
      have hf0 := hown.frozenAt (n.toNat - 1 - m)
      go_wp2
      go_roundw
      case rel =>
        have hst := (hown.stored (n.toNat - 1 - m) (.int .u8 ((48 + v.toNat / 10 ^ m % 10 : Nat) : Int))).1
        rw [row_set v.toNat n.toNat m (by omega), ← sh_digit] at hst
        exact ⟨m + 1, by omega, by rw [sh_succ], congrArg (Value.int .i64) (by omega), hst, hgr.setCell (Nat.le_refl _) _⟩
      case measure => simp [intOf]; omega
    · obtain rfl : m = n.toNat := by omega
      have hcv := run_convert_bytes_arg (P := Trym.prog) wr 45 5 Trym.underlying45 Trym.underlying5 w.heap.size 0 n.toNat n.toNat (row v.toNat n.toNat n.toNat) (row_len _ _ _ (Nat.le_refl _)) (own_row hown (row_len _ _ _ (Nat.le_refl _))) 9 Trym.underlying9
      clear hown
      go_wp2
      go_ret
      exact ⟨rfl, hgr⟩
end Go.Proofs.Qxb6602200aMods.num
