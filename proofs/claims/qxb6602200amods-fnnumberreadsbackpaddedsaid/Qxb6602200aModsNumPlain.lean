import Derived.WalkKit
/-! The plain laws on decimal digits: no Go in sight. -/
namespace Go.Proofs.Qxb6602200aMods.num
open Go.RowKit

def isD (c : Nat) : Bool := decide (48 ≤ c) && decide (c ≤ 57)
theorem isD_iff (c : Nat) : isD c = true ↔ 48 ≤ c ∧ c ≤ 57 := by simp [isD]

def D (l : List UInt8) : Nat := l.foldl (fun v c => v * 10 + (c.toNat - 48)) 0
def lead : List UInt8 → Nat
  | [] => 0
  | c :: t => if isD c.toNat = true then lead t + 1 else 0
theorem lead_le : ∀ l : List UInt8, lead l ≤ l.length
  | [] => Nat.le_refl _
  | c :: t => by
    have := lead_le t
    unfold lead; split <;> simp <;> omega
theorem lead_hit : ∀ (l : List UInt8) (k : Nat) (_ : k < lead l) (h' : k < l.length), isD (l[k]).toNat = true
  | [], _, _, h' => by simp at h'
  | c :: t, k, h, h' => by
    unfold lead at h
    split at h
    · rename_i hc
      cases k with
      | zero => simpa using hc
      | succ k => simpa using lead_hit t k (by omega) (by simpa using h')
    · omega
theorem lead_stop : ∀ (l : List UInt8) (h : lead l < l.length), isD (l[lead l]).toNat = false
  | [], h => by simp at h
  | c :: t, h => by
    by_cases hc : isD c.toNat = true
    · have e : lead (c :: t) = lead t + 1 := by rw [lead, if_pos hc]
      have := lead_stop t (by rw [e] at h; simpa using h)
      simp only [e, List.getElem_cons_succ]; exact this
    · have e : lead (c :: t) = 0 := by rw [lead, if_neg hc]
      simp only [e, List.getElem_cons_zero]; simpa using hc
theorem lead_ge : ∀ (a b : List UInt8), (∀ c ∈ a, isD c.toNat = true) → a.length ≤ lead (a ++ b)
  | [], _, _ => Nat.zero_le _
  | c :: t, b, h => by
    have := lead_ge t b (fun x hx => h x (List.mem_cons_of_mem _ hx))
    rw [List.cons_append, lead, if_pos (h c List.mem_cons_self), List.length_cons]; omega

def leadS (s : ByteArray) : Nat := lead s.data.toList
theorem leadS_le (s : ByteArray) : leadS s ≤ s.size := by
  have := lead_le s.data.toList; simpa [leadS] using this
theorem leadS_hit (s : ByteArray) (k : Nat) (h : k < leadS s) (h' : k < s.size) : 48 ≤ (s[k]).toNat ∧ (s[k]).toNat ≤ 57 :=
  (isD_iff _).1 (lead_hit s.data.toList k h (by simpa using h'))
theorem leadS_stop (s : ByteArray) (k : Nat) (h : k = leadS s) (h' : k < s.size) : ¬ (48 ≤ (s[k]).toNat ∧ (s[k]).toNat ≤ 57) := by
  subst h
  have := lead_stop s.data.toList (by simpa [leadS] using h')
  intro hc
  have h2 : isD (s.data.toList[lead s.data.toList]'(by simpa [leadS] using h')).toNat = true := (isD_iff _).2 hc
  rw [this] at h2; cases h2

/-! ### the value, left to right -/
def DT (s : ByteArray) (k : Nat) : Nat := D (s.data.toList.take k)
theorem take_snoc (s : ByteArray) (k : Nat) (h : k < s.size) : s.data.toList.take (k + 1) = s.data.toList.take k ++ [s[k]] := by
  rw [List.take_succ_eq_append_getElem (by simpa using h)]; rfl
theorem DT_succ (s : ByteArray) (k : Nat) (h : k < s.size) : DT s (k + 1) = DT s k * 10 + ((s[k]).toNat - 48) := by
  unfold DT; rw [take_snoc s k h]; simp [D]
/-- the value as an int holds it -/
def V (s : ByteArray) (k : Nat) : Int := wrap64 (DT s k : Int)
theorem V_zero (s : ByteArray) : V s 0 = 0 := by
  have : DT s 0 = 0 := by simp [DT, D]
  unfold V; rw [this]; decide +kernel
theorem w64_bd (x : Int) : -9223372036854775808 ≤ wrap64 x ∧ wrap64 x ≤ 9223372036854775807 := by unfold wrap64; omega
theorem V_bd (s : ByteArray) (k : Nat) : -9223372036854775808 ≤ V s k ∧ V s k ≤ 9223372036854775807 := w64_bd _
theorem V_succ (s : ByteArray) (k : Nat) (h : k < s.size) (hd : 48 ≤ (s[k]).toNat ∧ (s[k]).toNat ≤ 57) :
    wrap64 (wrap64 (V s k * 10) + (((s[k]).toNat : Int) - 48)) = V s (k + 1) := by
  unfold V; rw [DT_succ s k h]; unfold wrap64; omega

/-! ### right to left -/
theorem fold_D (l : List UInt8) : ∀ a : Nat, l.foldl (fun v c => v * 10 + (c.toNat - 48)) a = a * 10 ^ l.length + D l := by
  induction l with
  | nil => intro a; simp [D]
  | cons c t ih =>
    intro a
    have e : D (c :: t) = (c.toNat - 48) * 10 ^ t.length + D t := by
      show t.foldl (fun v c => v * 10 + (c.toNat - 48)) (0 * 10 + (c.toNat - 48)) = _
      rw [ih]; simp
    show t.foldl (fun v c => v * 10 + (c.toNat - 48)) (a * 10 + (c.toNat - 48)) = _
    rw [ih, e, List.length_cons, Nat.pow_succ, Nat.add_mul, Nat.mul_assoc, Nat.mul_comm 10, Nat.add_assoc]
theorem D_cons (c : UInt8) (l : List UInt8) : D (c :: l) = (c.toNat - 48) * 10 ^ l.length + D l := by
  show l.foldl (fun v c => v * 10 + (c.toNat - 48)) (0 * 10 + (c.toNat - 48)) = _
  rw [fold_D]; simp
theorem D_append (a b : List UInt8) : D (a ++ b) = D a * 10 ^ b.length + D b := by
  have : D (a ++ b) = b.foldl (fun v c => v * 10 + (c.toNat - 48)) (D a) := by unfold D; rw [List.foldl_append]
  rw [this, fold_D]
def RT (s : ByteArray) (n m : Nat) : Nat := D ((s.data.toList.take n).drop (n - m))
theorem RT_zero (s : ByteArray) (n : Nat) : RT s n 0 = 0 := by
  unfold RT; rw [List.drop_of_length_le (by rw [List.length_take]; omega)]; rfl
theorem RT_full (s : ByteArray) (n : Nat) : RT s n n = DT s n := by unfold RT DT; simp
theorem RT_succ (s : ByteArray) (n m : Nat) (hm : m < n) (hn : n ≤ s.size) : RT s n (m + 1) = ((s[n - 1 - m]).toNat - 48) * 10 ^ m + RT s n m := by
  unfold RT
  have hl : (s.data.toList.take n).length = n := by rw [List.length_take]; simp; omega
  have hp : (s.data.toList.take n).length - (n - m) = m := by omega
  rw [List.drop_eq_getElem_cons (i := n - (m + 1)) (by omega), D_cons, show n - (m + 1) + 1 = n - m from by omega, List.length_drop, hp]
  have e : (s.data.toList.take n)[n - (m + 1)]'(by omega) = s[n - 1 - m] := by
    rw [List.getElem_take]
    simp only [show n - (m + 1) = n - 1 - m from by omega]
    rfl
  rw [e]
def RV (s : ByteArray) (n m : Nat) : Int := wrap64 (RT s n m : Int)
def pw (m : Nat) : Int := wrap64 ((10 ^ m : Nat) : Int)
theorem RV_zero (s : ByteArray) (n : Nat) : RV s n 0 = 0 := by unfold RV; rw [RT_zero]; decide +kernel
theorem RV_full (s : ByteArray) (n : Nat) : RV s n n = V s n := by unfold RV V; rw [RT_full]
theorem pw_zero : pw 0 = 1 := by decide +kernel
theorem pw_succ (m : Nat) : wrap64 (pw m * 10) = pw (m + 1) := by
  unfold pw; rw [Nat.pow_succ]; unfold wrap64; omega
/-- a wrapped number is the number, up to a multiple of 2^64 -/
theorem w64_q (x : Int) : ∃ q : Int, wrap64 x = x + 18446744073709551616 * q := ⟨-((x + 9223372036854775808) / 18446744073709551616), by unfold wrap64; omega⟩
theorem w64_same {x y : Int} (q : Int) (h : x = y + 18446744073709551616 * q) : wrap64 x = wrap64 y := by subst h; unfold wrap64; omega
theorem RV_succ (s : ByteArray) (n m : Nat) (hm : m < n) (hn : n ≤ s.size) (hj : n - 1 - m < s.size) (hd : 48 ≤ (s[n - 1 - m]).toNat) :
    wrap64 (RV s n m + wrap64 ((((s[n - 1 - m]).toNat : Int) - 48) * pw m)) = RV s n (m + 1) := by
  unfold RV
  rw [RT_succ s n m hm hn]
  obtain ⟨c, hc⟩ : ∃ c : Nat, (s[n - 1 - m]).toNat = c + 48 := ⟨(s[n - 1 - m]).toNat - 48, by omega⟩
  rw [hc]
  obtain ⟨q1, h1⟩ := w64_q ((10 ^ m : Nat) : Int)
  obtain ⟨q2, h2⟩ := w64_q ((((c + 48 : Nat) : Int) - 48) * pw m)
  obtain ⟨q3, h3⟩ := w64_q (RT s n m : Int)
  rw [h2, h3]
  unfold pw
  rw [h1]
  apply w64_same (q3 + q2 + c * q1)
  rw [show ((c + 48 : Nat) : Int) - 48 = (c : Int) from by omega, show c + 48 - 48 = c from by omega, Int.natCast_add, Int.natCast_mul, Int.mul_add, Int.mul_add, Int.mul_add, Int.mul_left_comm (c : Int)]
  omega
end Go.Proofs.Qxb6602200aMods.num
