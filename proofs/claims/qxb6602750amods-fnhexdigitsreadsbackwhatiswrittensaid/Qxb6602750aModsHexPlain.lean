import Derived.WalkKit
/-! The plain laws on hexadecimal digits: no Go in sight. -/
namespace Go.Proofs.Qxb6602750aMods.hex
open Go.RowKit

def isHex (c : Nat) : Bool := (decide (48 ≤ c) && decide (c ≤ 57)) || (decide (97 ≤ c) && decide (c ≤ 102)) || (decide (65 ≤ c) && decide (c ≤ 70))
def hexV (c : Nat) : Nat := if c ≤ 57 then c - 48 else if 97 ≤ c then c - 87 else c - 55
def hxV (c : Nat) : Int := if isHex c = true then (hexV c : Int) else 0

theorem isHex_iff (c : Nat) : isHex c = true ↔ (48 ≤ c ∧ c ≤ 57) ∨ (97 ≤ c ∧ c ≤ 102) ∨ (65 ≤ c ∧ c ≤ 70) := by
  simp [isHex, or_assoc]
theorem hexV_lt {c : Nat} (h : isHex c = true) : hexV c < 16 := by
  rw [isHex_iff] at h; unfold hexV; split <;> (try split) <;> omega
theorem hxV_of {c : Nat} (h : isHex c = true) : hxV c = (hexV c : Int) := by unfold hxV; rw [if_pos h]

def N (l : List UInt8) : Nat := l.foldl (fun v c => v * 16 + hexV c.toNat) 0
def lead : List UInt8 → Nat
  | [] => 0
  | c :: t => if isHex c.toNat = true then lead t + 1 else 0

theorem lead_le : ∀ l : List UInt8, lead l ≤ l.length
  | [] => Nat.le_refl _
  | c :: t => by
    have := lead_le t
    unfold lead; split <;> simp <;> omega
theorem lead_hex : ∀ (l : List UInt8) (k : Nat) (_ : k < lead l) (h' : k < l.length), isHex (l[k]).toNat = true
  | [], _, _, h' => by simp at h'
  | c :: t, k, h, h' => by
    unfold lead at h
    split at h
    · rename_i hc
      cases k with
      | zero => simpa using hc
      | succ k => simpa using lead_hex t k (by omega) (by simpa using h')
    · omega
theorem lead_stop : ∀ (l : List UInt8) (h : lead l < l.length), isHex (l[lead l]).toNat = false
  | [], h => by simp at h
  | c :: t, h => by
    by_cases hc : isHex c.toNat = true
    · have e : lead (c :: t) = lead t + 1 := by rw [lead, if_pos hc]
      have := lead_stop t (by rw [e] at h; simpa using h)
      simp only [e, List.getElem_cons_succ]; exact this
    · have e : lead (c :: t) = 0 := by rw [lead, if_neg hc]
      simp only [e, List.getElem_cons_zero]; simpa using hc

def leadS (s : ByteArray) : Nat := lead s.data.toList
theorem leadS_le (s : ByteArray) : leadS s ≤ s.size := by
  have := lead_le s.data.toList; simpa [leadS] using this
theorem leadS_hex (s : ByteArray) (k : Nat) (h : k < leadS s) (h' : k < s.size) : isHex (s[k]).toNat = true :=
  lead_hex s.data.toList k h (by simpa using h')
theorem leadS_stop (s : ByteArray) (h : leadS s < s.size) : isHex (s[leadS s]).toNat = false :=
  lead_stop s.data.toList (by simpa [leadS] using h)
/-- a place that is hex lies before the lead's end -/
theorem leadS_next (s : ByteArray) (k : Nat) (hk : k ≤ leadS s) (h' : k < s.size) (hx : isHex (s[k]).toNat = true) : k < leadS s := by
  rcases Nat.lt_or_ge k (leadS s) with h | h
  · exact h
  · have e : k = leadS s := by omega
    subst e
    rw [leadS_stop s h'] at hx; cases hx
theorem leadS_end (s : ByteArray) (k : Nat) (hk : k ≤ leadS s) (h' : k < s.size) (hx : isHex (s[k]).toNat = false) : k = leadS s := by
  rcases Nat.lt_or_ge k (leadS s) with h | h
  · rw [leadS_hex s k h h'] at hx; cases hx
  · omega

def NT (s : ByteArray) (k : Nat) : Nat := N (s.data.toList.take k)
theorem take_snoc (s : ByteArray) (k : Nat) (h : k < s.size) : s.data.toList.take (k + 1) = s.data.toList.take k ++ [s[k]] := by
  rw [List.take_succ_eq_append_getElem (by simpa using h)]; rfl
theorem NT_succ (s : ByteArray) (k : Nat) (h : k < s.size) : NT s (k + 1) = NT s k * 16 + hexV (s[k]).toNat := by
  unfold NT; rw [take_snoc s k h]; simp [N]

theorem NT_zero (s : ByteArray) : wrap32 (NT s 0 : Int) = 0 := by
  have : NT s 0 = 0 := by simp [NT, N]
  rw [this]; decide +kernel
/-- what hexDigits answers -/
def hdV (s : ByteArray) (n : Int) : Int := if 0 < n ∧ n ≤ (leadS s : Int) then wrap32 (NT s n.toNat : Int) else 0
def hdK (s : ByteArray) (n : Int) : Int := if n ≤ 0 then n else if (leadS s : Int) < n then (leadS s : Int) else n
theorem hd_neg (s : ByteArray) (n : Int) (h : n ≤ 0) : hdV s n = 0 ∧ hdK s n = n := by
  unfold hdV hdK; exact ⟨if_neg (by omega), if_pos h⟩
theorem hd_short (s : ByteArray) (n : Int) (h : 0 < n) (h' : (leadS s : Int) < n) : hdV s n = 0 ∧ hdK s n = leadS s := by
  unfold hdV hdK; exact ⟨if_neg (by omega), by rw [if_neg (by omega), if_pos h']⟩
theorem hd_full (s : ByteArray) (n : Int) (h : 0 < n) (h' : n ≤ (leadS s : Int)) : hdV s n = wrap32 (NT s n.toNat : Int) ∧ hdK s n = n := by
  unfold hdV hdK; exact ⟨if_pos ⟨h, h'⟩, by rw [if_neg (by omega), if_neg (by omega)]⟩

/-! ### the machine's words -/
theorem or_low (x d : Int) (h0 : 0 ≤ d) (h1 : d < 16) : bits .or .i32 (wrap32 (x * 16)) d = wrap32 (x * 16 + d) := by
  obtain ⟨D, rfl⟩ := Int.eq_ofNat_of_zero_le h0
  have hD : D < 16 := by omega
  have e1 : (BitVec.ofInt 32 (wrap32 (x * 16))).toNat = ((x * 16) % 4294967296).toNat := by
    rw [BitVec.toNat_ofInt]; unfold wrap32; congr 1; omega
  have e2 : (BitVec.ofInt 32 (D : Int)).toNat = D := by
    rw [BitVec.toNat_ofInt]; simp; omega
  have e3 : (BitVec.ofInt 32 (wrap32 (x * 16)) ||| BitVec.ofInt 32 (D : Int)).toNat = ((x * 16) % 4294967296).toNat + D := by
    rw [BitVec.toNat_or, e1, e2]
    exact nat_join 4 _ _ (by omega) (by simpa using hD)
  show IntKind.i32.wrap ((BitVec.ofInt 32 (wrap32 (x * 16)) ||| BitVec.ofInt 32 (D : Int)).toNat : Int) = _
  rw [e3, IntKind.wrap_i32]; unfold wrap32; omega
theorem wrap_step (x d : Int) : wrap32 (wrap32 x * 16 + d) = wrap32 (x * 16 + d) := by unfold wrap32; omega

/-! ### right to left -/
theorem fold_N (l : List UInt8) : ∀ a : Nat, l.foldl (fun v c => v * 16 + hexV c.toNat) a = a * 16 ^ l.length + N l := by
  induction l with
  | nil => intro a; simp [N]
  | cons c t ih =>
    intro a
    have e : N (c :: t) = hexV c.toNat * 16 ^ t.length + N t := by
      show t.foldl (fun v c => v * 16 + hexV c.toNat) (0 * 16 + hexV c.toNat) = _
      rw [ih]; simp
    show t.foldl (fun v c => v * 16 + hexV c.toNat) (a * 16 + hexV c.toNat) = _
    rw [ih, e, List.length_cons, Nat.pow_succ, Nat.add_mul, Nat.mul_assoc, Nat.mul_comm 16, Nat.add_assoc]
theorem N_cons (c : UInt8) (l : List UInt8) : N (c :: l) = hexV c.toNat * 16 ^ l.length + N l := by
  show l.foldl (fun v c => v * 16 + hexV c.toNat) (0 * 16 + hexV c.toNat) = _
  rw [fold_N]; simp
theorem N_append (a b : List UInt8) : N (a ++ b) = N a * 16 ^ b.length + N b := by
  have : N (a ++ b) = b.foldl (fun v c => v * 16 + hexV c.toNat) (N a) := by unfold N; rw [List.foldl_append]
  rw [this, fold_N]
theorem N_lt : ∀ l : List UInt8, (∀ c ∈ l, isHex c.toNat = true) → N l < 16 ^ l.length
  | [], _ => by simp [N]
  | c :: t, h => by
    have h1 := N_lt t (fun x hx => h x (List.mem_cons_of_mem _ hx))
    have h2 := hexV_lt (h c List.mem_cons_self)
    rw [N_cons, List.length_cons, Nat.pow_succ, Nat.mul_comm (16 ^ t.length)]
    have : hexV c.toNat * 16 ^ t.length ≤ 15 * 16 ^ t.length := Nat.mul_le_mul_right _ (by omega)
    omega
def RT (s : ByteArray) (n m : Nat) : Nat := N ((s.data.toList.take n).drop (n - m))
theorem RT_zero (s : ByteArray) (n : Nat) : RT s n 0 = 0 := by
  unfold RT; rw [List.drop_of_length_le (by rw [List.length_take]; omega)]; rfl
theorem RT_succ (s : ByteArray) (n m : Nat) (hm : m < n) (hn : n ≤ s.size) : RT s n (m + 1) = hexV (s[n - 1 - m]).toNat * 16 ^ m + RT s n m := by
  unfold RT
  have hl : (s.data.toList.take n).length = n := by rw [List.length_take]; simp; omega
  have hp : (s.data.toList.take n).length - (n - m) = m := by omega
  rw [List.drop_eq_getElem_cons (i := n - (m + 1)) (by omega), N_cons, show n - (m + 1) + 1 = n - m from by omega, List.length_drop, hp]
  have e : (s.data.toList.take n)[n - (m + 1)]'(by omega) = s[n - 1 - m] := by
    rw [List.getElem_take]
    simp only [show n - (m + 1) = n - 1 - m from by omega]
    rfl
  rw [e]
theorem RT_lt (s : ByteArray) (n m : Nat) (hm : m ≤ n) (hn : n ≤ leadS s) : RT s n m < 16 ^ m := by
  have hs := leadS_le s
  have hl : (s.data.toList.take n).length = n := by rw [List.length_take]; simp; omega
  have := N_lt ((s.data.toList.take n).drop (n - m)) (by
    intro c hc
    have hc' := List.mem_of_mem_drop hc
    obtain ⟨i, hi, rfl⟩ := List.mem_iff_getElem.1 hc'
    rw [List.getElem_take]
    exact lead_hex s.data.toList i (by unfold leadS at hn; omega) _)
  rw [List.length_drop, hl, show n - (n - m) = m from by omega] at this
  exact this
theorem NT_split (s : ByteArray) (n m : Nat) (hm : m ≤ n) (hn : n ≤ s.size) : ∃ q : Nat, NT s n = q * 16 ^ m + RT s n m := by
  refine ⟨N ((s.data.toList.take n).take (n - m)), ?_⟩
  have hl : (s.data.toList.take n).length = n := by rw [List.length_take]; simp; omega
  have e := N_append ((s.data.toList.take n).take (n - m)) ((s.data.toList.take n).drop (n - m))
  rw [List.take_append_drop, List.length_drop, hl, show n - (n - m) = m from by omega] at e
  exact e

/-- the weight of a digit: a uint32 that is shifted left by four at each step -/
def pw (m : Nat) : Int := ((16 ^ m % 4294967296 : Nat) : Int)
theorem pw_bd (m : Nat) : 0 ≤ pw m ∧ pw m < 4294967296 := by unfold pw; omega
theorem pw_zero : pw 0 = 1 := rfl
theorem pw_succ (m : Nat) : pw m * 16 % 4294967296 = pw (m + 1) := by
  unfold pw; rw [Nat.pow_succ]; omega
theorem pow_le8 (m : Nat) (h : m ≤ 8) : 16 ^ m ≤ 4294967296 := by
  have := Nat.pow_le_pow_right (n := 16) (by omega) h
  simpa using this
theorem pw_of (m : Nat) (h : m < 8) : pw m = ((16 ^ m : Nat) : Int) := by
  unfold pw
  have h1 := pow_le8 (m + 1) (by omega)
  rw [Nat.pow_succ] at h1
  have h2 : 0 < 16 ^ m := Nat.pow_pos (by omega)
  rw [Nat.mod_eq_of_lt (by omega)]
theorem rt_step (s : ByteArray) (n m : Nat) (hm : m < n) (h8 : m < 8) (hn : n ≤ leadS s) (hj : n - 1 - m < s.size) :
    (RT s n m : Int) + hxV (s[n - 1 - m]).toNat * pw m = (RT s n (m + 1) : Int) ∧ (RT s n (m + 1) : Int) < 4294967296 ∧ 0 ≤ hxV (s[n - 1 - m]).toNat * pw m := by
  have hs := leadS_le s
  have h1 := RT_succ s n m hm (by omega)
  have hx := leadS_hex s (n - 1 - m) (by omega) hj
  have h2 := RT_lt s n (m + 1) (by omega) hn
  have h3 := pow_le8 (m + 1) (by omega)
  rw [hxV_of hx, pw_of m h8, ← Int.natCast_mul]
  omega
theorem rt_last (s : ByteArray) (n : Nat) (hn : n ≤ leadS s) : wrap32 (NT s n : Int) = wrap32 (RT s n (min n 8) : Int) := by
  have hs := leadS_le s
  obtain ⟨q, hq⟩ := NT_split s n (min n 8) (Nat.min_le_left _ _) (by omega)
  rcases Nat.lt_or_ge n 8 with h | h
  · have e : min n 8 = n := by omega
    rw [e]
    congr 2
    unfold RT NT; simp
  · have e : min n 8 = 8 := by omega
    rw [e] at hq ⊢
    rw [hq]; unfold wrap32; omega
end Go.Proofs.Qxb6602750aMods.hex
