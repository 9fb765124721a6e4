import Derived.Test.Qxb6602200aModsNumPlain
import Derived.Laws.BytesArg
/-! The plain laws on writing a number by decimal digits. -/
namespace Go.Proofs.Qxb6602200aMods.num
open Go.RowKit

def P10 (k : Nat) : Int := ((10 ^ k : Nat) : Int)
theorem P10_zero : P10 0 = 1 := rfl
theorem P10_succ (k : Nat) : P10 k * 10 = P10 (k + 1) := by unfold P10; rw [Nat.pow_succ]; omega
theorem P10_bd (k : Nat) (h : k ≤ 9) : 1 ≤ P10 k ∧ P10 k ≤ 1000000000 := by
  unfold P10
  have h1 := Nat.pow_le_pow_right (n := 10) (by omega) h
  have h2 : 0 < 10 ^ k := Nat.pow_pos (by omega)
  omega

/-- the m lowest decimal digits of v, the highest first -/
def dg : Nat → Nat → List Nat
  | _, 0 => []
  | v, m + 1 => dg (v / 10) m ++ [48 + v % 10]
theorem dg_len : ∀ (m v : Nat), (dg v m).length = m
  | 0, _ => rfl
  | m + 1, v => by simp [dg, dg_len m]
theorem dg_cons : ∀ (m v : Nat), dg v (m + 1) = (48 + v / 10 ^ m % 10) :: dg v m
  | 0, v => by simp [dg]
  | m + 1, v => by
    have e : dg v (m + 2) = dg (v / 10) (m + 1) ++ [48 + v % 10] := rfl
    rw [e, dg_cons m (v / 10), Nat.div_div_eq_div_mul, Nat.pow_succ, Nat.mul_comm (10 ^ m)]
    rfl
theorem dg_dig : ∀ (m v : Nat), ∀ c ∈ dg v m, 48 ≤ c ∧ c ≤ 57
  | 0, _, c, h => by simp [dg] at h
  | m + 1, v, c, h => by
    simp only [dg, List.mem_append, List.mem_singleton] at h
    rcases h with h | h
    · exact dg_dig m _ c h
    · omega
def bs (l : List Nat) : List UInt8 := l.map UInt8.ofNat
theorem D_dg : ∀ (m v : Nat), D (bs (dg v m)) = v % 10 ^ m
  | 0, v => by simp [dg, bs, D, Nat.mod_one]
  | m + 1, v => by
    have ih := D_dg m (v / 10)
    have e : bs (dg v (m + 1)) = bs (dg (v / 10) m) ++ [UInt8.ofNat (48 + v % 10)] := by simp [bs, dg]
    rw [e, D_append, ih]
    have e2 : D [UInt8.ofNat (48 + v % 10)] = v % 10 := by
      simp only [D, List.foldl_cons, List.foldl_nil]
      rw [UInt8.toNat_ofNat_of_lt' (show 48 + v % 10 < 256 by omega)]; omega
    rw [e2, Nat.pow_succ, Nat.mul_comm (10 ^ m), Nat.mod_mul]
    simp; omega

/-- the cells of the row: zeros, then the m lowest digits -/
def row (v n m : Nat) : List Int := (List.replicate (n - m) 0 ++ dg v m).map Int.ofNat
theorem row_len (v n m : Nat) (h : m ≤ n) : (row v n m).length = n := by simp [row, dg_len]; omega
theorem row_zero (v n : Nat) : row v n 0 = List.replicate n 0 := by simp [row, dg]
theorem row_set (v n m : Nat) (h : m < n) :
    ((row v n m).map (Value.int .u8)).set (n - 1 - m) (.int .u8 ((48 + v / 10 ^ m % 10 : Nat) : Int)) = (row v n (m + 1)).map (Value.int .u8) := by
  unfold row
  rw [← List.map_set, dg_cons, show n - m = (n - 1 - m) + 1 from by omega, show n - (m + 1) = n - 1 - m from by omega, List.replicate_succ', List.append_assoc]
  rw [show ((48 + v / 10 ^ m % 10 : Nat) : Int) = Int.ofNat (48 + v / 10 ^ m % 10) from rfl, ← List.map_set (f := Int.ofNat), List.set_append_right _ _ (by simp)]
  simp
def pad (v n : Nat) : ByteArray := strOfNums (row v n n)
theorem pad_size (v n : Nat) : (pad v n).size = n := by unfold pad; rw [strOfNums_size, row_len _ _ _ (Nat.le_refl _)]
theorem pad_data (v n : Nat) (t : ByteArray) : (pad v n ++ t).data.toList = bs (dg v n) ++ t.data.toList := by
  simp [pad, strOfNums_data, row, bs]
theorem pad_reads (v n : Nat) (t : ByteArray) (hv : v < 10 ^ n) (h9 : n ≤ 9) :
    n ≤ leadS (pad v n ++ t) ∧ V (pad v n ++ t) n = v ∧ (pad v n ++ t).extract n (pad v n ++ t).size = t := by
  have hl : (bs (dg v n)).length = n := by simp [bs, dg_len]
  have hx : ∀ c ∈ bs (dg v n), isD c.toNat = true := by
    intro c hc
    obtain ⟨d, hd, rfl⟩ := List.mem_map.1 hc
    have := dg_dig n v d hd
    rw [UInt8.toNat_ofNat_of_lt' (show d < 256 by omega)]; exact (isD_iff _).2 this
  refine ⟨?_, ?_, ?_⟩
  · unfold leadS; rw [pad_data]
    have := lead_ge (bs (dg v n)) t.data.toList hx
    omega
  · have h1 := Nat.pow_le_pow_right (n := 10) (by omega) h9
    unfold V DT
    rw [pad_data, List.take_left' hl, D_dg, Nat.mod_eq_of_lt hv]
    unfold wrap64; omega
  · exact ByteArray.extract_append_eq_right (pad_size v n).symm ByteArray.size_append
end Go.Proofs.Qxb6602200aMods.num
