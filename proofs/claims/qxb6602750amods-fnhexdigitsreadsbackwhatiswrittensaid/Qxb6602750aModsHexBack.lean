import Derived.Test.Qxb6602750aModsHexPlain
import Derived.Laws.BytesArg
/-! The plain laws on writing a number by hexadecimal digits. -/
namespace Go.Proofs.Qxb6602750aMods.hex
open Go.RowKit

def hexC (d : Nat) (u : Bool) : Nat := if d < 10 then 48 + d else if u = true then 55 + d else 87 + d
theorem hexC_ok (d : Nat) (u : Bool) (h : d < 16) : isHex (hexC d u) = true ∧ hexV (hexC d u) = d ∧ hexC d u < 256 := by
  unfold hexC
  by_cases h1 : d < 10
  · rw [if_pos h1]; exact ⟨(isHex_iff _).2 (by omega), by unfold hexV; rw [if_pos (by omega)]; omega, by omega⟩
  · rw [if_neg h1]
    cases u
    · simp only [Bool.false_eq_true, if_false]
      exact ⟨(isHex_iff _).2 (by omega), by unfold hexV; rw [if_neg (by omega), if_pos (by omega)]; omega, by omega⟩
    · simp only [if_true]
      exact ⟨(isHex_iff _).2 (by omega), by unfold hexV; rw [if_neg (by omega), if_neg (by omega)]; omega, by omega⟩

/-- the m lowest hexadecimal digits of v, the highest first -/
def dg (u : Bool) : Nat → Nat → List Nat
  | _, 0 => []
  | v, m + 1 => dg u (v / 16) m ++ [hexC (v % 16) u]
theorem dg_len (u : Bool) : ∀ (m v : Nat), (dg u v m).length = m
  | 0, _ => rfl
  | m + 1, v => by simp [dg, dg_len u m]
theorem dg_cons (u : Bool) : ∀ (m v : Nat), dg u v (m + 1) = hexC (v / 16 ^ m % 16) u :: dg u v m
  | 0, v => by simp [dg]
  | m + 1, v => by
    have e : dg u v (m + 2) = dg u (v / 16) (m + 1) ++ [hexC (v % 16) u] := rfl
    rw [e, dg_cons u m (v / 16), Nat.div_div_eq_div_mul, Nat.pow_succ, Nat.mul_comm (16 ^ m)]
    rfl
theorem dg_hex (u : Bool) : ∀ (m v : Nat), ∀ c ∈ dg u v m, isHex c = true ∧ c < 256
  | 0, _, c, h => by simp [dg] at h
  | m + 1, v, c, h => by
    simp only [dg, List.mem_append, List.mem_singleton] at h
    rcases h with h | h
    · exact dg_hex u m _ c h
    · have := hexC_ok (v % 16) u (by omega)
      subst h
      exact ⟨this.1, this.2.2⟩
def bs (l : List Nat) : List UInt8 := l.map UInt8.ofNat
theorem N_dg (u : Bool) : ∀ (m v : Nat), N (bs (dg u v m)) = v % 16 ^ m
  | 0, v => by simp [dg, bs, N, Nat.mod_one]
  | m + 1, v => by
    have ih := N_dg u m (v / 16)
    have h := hexC_ok (v % 16) u (by omega)
    have e : bs (dg u v (m + 1)) = bs (dg u (v / 16) m) ++ [UInt8.ofNat (hexC (v % 16) u)] := by simp [bs, dg]
    rw [e, N_append, ih]
    have e2 : N [UInt8.ofNat (hexC (v % 16) u)] = v % 16 := by
      simp only [N, List.foldl_cons, List.foldl_nil]
      rw [UInt8.toNat_ofNat_of_lt' h.2.2, h.2.1]; omega
    rw [e2, Nat.pow_succ, Nat.mul_comm (16 ^ m), Nat.mod_mul]
    simp; omega
theorem lead_ge : ∀ (a b : List UInt8), (∀ c ∈ a, isHex c.toNat = true) → a.length ≤ lead (a ++ b)
  | [], _, _ => Nat.zero_le _
  | c :: t, b, h => by
    have := lead_ge t b (fun x hx => h x (List.mem_cons_of_mem _ hx))
    rw [List.cons_append, lead, if_pos (h c List.mem_cons_self), List.length_cons]; omega

/-- the cells of the row: zeros, then the m lowest digits -/
def row (u : Bool) (v n m : Nat) : List Int := (List.replicate (n - m) 0 ++ dg u v m).map Int.ofNat
theorem row_len (u : Bool) (v n m : Nat) (h : m ≤ n) : (row u v n m).length = n := by simp [row, dg_len]; omega
theorem row_zero (u : Bool) (v n : Nat) : row u v n 0 = List.replicate n 0 := by simp [row, dg]
theorem row_set (u : Bool) (v n m : Nat) (h : m < n) :
    ((row u v n m).map (Value.int .u8)).set (n - 1 - m) (.int .u8 (hexC (v / 16 ^ m % 16) u : Nat)) = (row u v n (m + 1)).map (Value.int .u8) := by
  unfold row
  rw [← List.map_set, dg_cons, show n - m = (n - 1 - m) + 1 from by omega, show n - (m + 1) = n - 1 - m from by omega, List.replicate_succ', List.append_assoc]
  rw [show ((hexC (v / 16 ^ m % 16) u : Nat) : Int) = Int.ofNat (hexC (v / 16 ^ m % 16) u) from rfl, ← List.map_set (f := Int.ofNat), List.set_append_right _ _ (by simp)]
  simp
def word (u : Bool) (v n : Nat) (t : ByteArray) : ByteArray := strOfNums (row u v n n) ++ t
theorem word_data (u : Bool) (v n : Nat) (t : ByteArray) : (word u v n t).data.toList = bs (dg u v n) ++ t.data.toList := by
  simp [word, strOfNums_data, row, bs]
theorem word_size (u : Bool) (v n : Nat) (t : ByteArray) : (word u v n t).size = n + t.size := by
  simp [word, strOfNums_size, row_len]
theorem word_reads (u : Bool) (v n : Nat) (t : ByteArray) (h0 : 0 < n) (hv : v < 16 ^ n) : hdV (word u v n t) n = wrap32 v ∧ hdK (word u v n t) n = n := by
  have hl : (bs (dg u v n)).length = n := by simp [bs, dg_len]
  have hx : ∀ c ∈ bs (dg u v n), isHex c.toNat = true := by
    intro c hc
    obtain ⟨d, hd, rfl⟩ := List.mem_map.1 hc
    have := dg_hex u n v d hd
    rw [UInt8.toNat_ofNat_of_lt' this.2]; exact this.1
  have hle : n ≤ leadS (word u v n t) := by
    unfold leadS; rw [word_data]
    have := lead_ge (bs (dg u v n)) t.data.toList hx
    omega
  have := hd_full (word u v n t) n (by omega) (by omega)
  refine ⟨?_, this.2⟩
  rw [this.1]
  congr 2
  unfold NT
  rw [word_data, Int.toNat_natCast, List.take_left' hl, N_dg, Nat.mod_eq_of_lt hv]
end Go.Proofs.Qxb6602750aMods.hex
