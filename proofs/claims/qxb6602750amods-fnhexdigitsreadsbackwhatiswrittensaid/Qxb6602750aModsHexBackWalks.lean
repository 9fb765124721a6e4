import Derived.Test.Qxb6602750aModsHexWalks
import Derived.Test.Qxb6602750aModsHexBack
namespace Go.Proofs.Qxb6602750aMods.hex
open Go.ChangeShapes Go.WideShapes Go.ChangeAt Go.RowKit

theorem bytes13_ok (v n : Int) (u : Bool) (s : ByteArray) (w : World) (hs : s.size ≤ 1048576) :
    Calls Trym.prog 13 #[.int .u32 v, .int .i64 n, .bool u, .string s] w fun e w' => e = .returned (.bool true) ∧ w' = w := by
  go_enter Trym.func13, Trym.ntmps13
  go_wp2
  go_ret
  exact ⟨rfl, rfl⟩
theorem bytes13_no (v n : Int) (u : Bool) (s : ByteArray) (w : World) (hs : 1048576 < s.size) (hs' : s.size ≤ maxLen) :
    Calls Trym.prog 13 #[.int .u32 v, .int .i64 n, .bool u, .string s] w fun e w' => e = .returned (.bool false) ∧ w' = w := by
  unfold maxLen at hs'
  go_enter Trym.func13, Trym.ntmps13
  go_wp2
  go_ret
  exact ⟨rfl, rfl⟩
theorem ret1 {k : IntKind} {a b : Int} (h : a = b) : Ending.returned (.int k a) = .returned (.int k b) := by rw [h]
theorem hexChar_any (D : Int) (d : Nat) (u : Bool) (w : World) (hD : D = d) (hd : d < 16) :
    Calls Trym.prog 14 #[.int .u32 D, .bool u] w fun e w' => e = .returned (.int .u8 (hexC d u : Nat)) ∧ w' = w := by
  subst hD
  by_cases h : d < 10
  · go_enter Trym.func14, Trym.ntmps14
    go_wp2
    go_ret
    exact ⟨ret1 (by unfold hexC; rw [if_pos h]; omega), rfl⟩
  · cases u
    · go_enter Trym.func14, Trym.ntmps14
      go_wp2
      go_ret
      exact ⟨ret1 (by unfold hexC; rw [if_neg h]; simp; omega), rfl⟩
    · go_enter Trym.func14, Trym.ntmps14
      go_wp2
      go_ret
      exact ⟨ret1 (by unfold hexC; rw [if_neg h]; simp; omega), rfl⟩
theorem Trym.info5 : (Trym.prog.info? 5).map (fun i => (i.zero, i.size, i.bytes)) = some (some (.int .u8 0), 1, 1) := by kernel_rfl
theorem and15 (x : Nat) (h : x < 4294967296) : bits .and .u32 (x : Int) 15 = ((x % 16 : Nat) : Int) := by
  rw [show (15 : Int) = ((15 : Nat) : Int) from rfl, u32_and_nat x 15 h (by omega), nat_mask4]

def sh (v : Int) (m : Nat) : Int := ((v.toNat / 16 ^ m : Nat) : Int)
theorem sh_zero (v : Int) (h : 0 ≤ v) : sh v 0 = v := by unfold sh; simp; omega
theorem sh_succ (v : Int) (m : Nat) : sh v m / 16 = sh v (m + 1) := by
  unfold sh; rw [Nat.pow_succ, ← Nat.div_div_eq_div_mul]; omega
theorem sh_bd (v : Int) (m : Nat) (h : v < 4294967296) : 0 ≤ sh v m ∧ sh v m < 4294967296 := by
  have h1 : v.toNat / 16 ^ m ≤ v.toNat := Nat.div_le_self _ _
  show 0 ≤ ((v.toNat / 16 ^ m : Nat) : Int) ∧ ((v.toNat / 16 ^ m : Nat) : Int) < 4294967296
  generalize v.toNat / 16 ^ m = q at h1 ⊢
  omega
theorem sh_and (v : Int) (m : Nat) (h : v < 4294967296) : bits .and .u32 (sh v m) 15 = ((v.toNat / 16 ^ m % 16 : Nat) : Int) := by
  have : v.toNat / 16 ^ m ≤ v.toNat := Nat.div_le_self _ _
  exact and15 _ (by omega)
theorem own_row {W : World} {g n : Nat} {xs : List Int} {base : Nat} (h : W.ownsRow base 5 1 (.slice (some ⟨g, 0, none⟩) n n) n (xs.map (Value.int .u8))) (hx : xs.length = n) :
    (∀ i, i < n → W.cell? ⟨g, 0 + i, none⟩ = some (.int .u8 (xs.getD i 0))) := by
  intro i hi
  rw [Nat.zero_add, h.cellAt i (by omega)]
  simp [List.getElem?_eq_getElem (show i < xs.length by omega)]
theorem made_row (n : Nat) : (madeCells #[Value.int .u8 0] n).toList = (List.replicate n (0 : Int)).map (Value.int .u8) := by
  rw [toList_madeCells_one]; simp

set_option maxHeartbeats 800000 in
theorem walk_main (v n : Int) (u : Bool) (s : ByteArray) (hv0 : 0 ≤ v) (hv : v < 4294967296) (h1 : 1 ≤ n) (h8 : n ≤ 8) (hs : s.size ≤ 1048576)
    (hq : n < 8 → (v / 2 ^ (4 * n).toNat != 0) = false) (HV : Hid (v.toNat < 16 ^ n.toNat)) (w : World) :
    Calls Trym.prog 4 #[.int .u32 v, .int .i64 n, .bool u, .string s] w fun e w' => e = .returned (.bool true) ∧ Grown w w' := by
  obtain ⟨i0, hi, hz0, hz1, hz2⟩ := info_parts Trym.info5
  have hmk := run_make (P := Trym.prog) w 30 5 i0 (.int .u8 0) Trym.underlying30 hi hz0 .i64 .i64 n n (by omega) (by omega) (by rw [hz2]; omega) (by omega)
  rw [hz1] at hmk
  clear hi hz0 hz1 hz2
  by_cases hn8 : n < 8
  all_goals
    try (have hq' := hq hn8)
    clear hq
    go_enter Trym.func4, Trym.ntmps4
    go_wp2_with (go_at_call 13; refine (bytes13_ok _ _ _ _ _ (by omega)).mono ?_; rintro e w' ⟨rfl, rfl⟩)
    clear hmk
    go_loopw [10, 11] (fun x j wr => ∃ m : Nat, (m : Int) ≤ n ∧ x = .int .u32 (sh v m) ∧ j = .int .i64 (n - 1 - m) ∧
        wr.ownsRow w'.heap.size 5 1 (.slice (some ⟨w'.heap.size, 0, none⟩) n.toNat n.toNat) n.toNat ((row u v.toNat n.toNat m).map (Value.int .u8)) ∧ Grown w' wr)
      (fun _ j _ => (intOf j + 1).toNat)
    case atStart =>
      refine ⟨0, by omega, by rw [sh_zero v hv0], by go_num, ?_, (Grown.refl _).alloc _ _⟩
      rw [row_zero, ← made_row]
      have := World.ownsRow_lit (base := w'.heap.size) (e := 5) (size := 1) w' (madeCells #[Value.int .u8 0] n.toNat) n.toNat (Nat.le_refl _) (by unfold maxLen; omega) (by rw [size_madeCells]; omega)
      exact this
    case round =>
      obtain ⟨m, hm, rfl, rfl, hown, hgr⟩ := hrel
      by_cases hgo : (m : Int) < n
      · have hxl := sh_bd v m hv
        have hc0 := own_row hown (row_len u v.toNat n.toNat m (by omega)) (n.toNat - 1 - m) (by omega)
        rw [Nat.zero_add] at hc0
        have hf0 := hown.frozenAt (n.toNat - 1 - m)
        go_wp2_with (go_at_call 14; refine (hexChar_any _ (v.toNat / 16 ^ m % 16) _ _ (sh_and v m hv) (by omega)).mono ?_; rintro e w2 ⟨rfl, rfl⟩)
        go_roundw
        case rel =>
          have hst := (hown.stored (n.toNat - 1 - m) (.int .u8 (hexC (v.toNat / 16 ^ m % 16) u : Nat))).1
          rw [row_set u v.toNat n.toNat m (by omega)] at hst
          exact ⟨m + 1, by omega, by rw [sh_succ], congrArg (Value.int .i64) (by omega), hst, hgr.setCell (Nat.le_refl _) _⟩
        case measure => simp [intOf]; omega
      · obtain rfl : m = n.toNat := by omega
        have hcv := run_convert_bytes_arg (P := Trym.prog) wr 30 5 Trym.underlying30 Trym.underlying5 w'.heap.size 0 n.toNat n.toNat (row u v.toNat n.toNat n.toNat) (row_len _ _ _ _ (Nat.le_refl _)) (own_row hown (row_len _ _ _ _ (Nat.le_refl _))) 9 Trym.underlying9
        have hsz : (strOfNums (row u v.toNat n.toNat n.toNat)).size ≤ 8 := by rw [strOfNums_size, row_len _ _ _ _ (Nat.le_refl _)]; omega
        have hwr := word_reads u v.toNat n.toNat s (by omega) HV.out
        rw [show ((n.toNat : Nat) : Int) = n from by omega, show ((v.toNat : Nat) : Int) = v from by omega] at hwr
        have e1 : (hdV (strOfNums (row u v.toNat n.toNat n.toNat) ++ s) n == wrap32 v) = true := by
          have := hwr.1; unfold word at this; rw [this]; simp
        have e2 : (hdK (strOfNums (row u v.toNat n.toNat n.toNat) ++ s) n == n) = true := by
          have := hwr.2; unfold word at this; rw [this]; simp
        have hsz2 : (strOfNums (row u v.toNat n.toNat n.toNat) ++ s).size ≤ 2097152 := by rw [ByteArray.size_append]; omega
        clear hwr hown
        go_wp2_with (go_at_call 11; refine (zzHex_any _ _ _ hsz2 (by omega)).mono ?_; rintro e w2 ⟨rfl, rfl⟩)
        go_ret
        exact ⟨rfl, hgr⟩
end Go.Proofs.Qxb6602750aMods.hex
