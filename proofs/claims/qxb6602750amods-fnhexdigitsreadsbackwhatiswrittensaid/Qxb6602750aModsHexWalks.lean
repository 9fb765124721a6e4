import Derived.Test.Qxb6602750aModsRows
import Derived.Test.Qxb6602750aModsHexPlain
import Derived.WalkKit
import Derived.ProofKit
import Derived.WalkLawsBesides
/-! The walks of hexDigits and of its callers' helpers. -/
namespace Go.Proofs.Qxb6602750aMods.hex
open Go.ChangeShapes Go.WideShapes Go.ChangeAt Go.RowKit

theorem ret2 {k l : IntKind} {a b c d : Int} (h : a = b) (h' : c = d) : Ending.returned (.tuple #[.int k a, .int l c]) = .returned (.tuple #[.int k b, .int l d]) := by rw [h, h']

theorem bytes10_ok (s : ByteArray) (n : Int) (w : World) (hs : s.size ≤ 1048576) :
    Calls Trym.prog 10 #[.string s, .int .i64 n] w fun e w' => e = .returned (.bool true) ∧ w' = w := by
  go_enter Trym.func10, Trym.ntmps10
  go_wp2
  go_ret
  exact ⟨rfl, rfl⟩
theorem bytes10_no (s : ByteArray) (n : Int) (w : World) (hs : 1048576 < s.size) (hs' : s.size ≤ maxLen) :
    Calls Trym.prog 10 #[.string s, .int .i64 n] w fun e w' => e = .returned (.bool false) ∧ w' = w := by
  unfold maxLen at hs'
  go_enter Trym.func10, Trym.ntmps10
  go_wp2
  go_ret
  exact ⟨rfl, rfl⟩

theorem step_of {x : Int} {c D : Nat} {d : Int} (hd : d = (D : Int)) (hv : hexV c = D) (hc : isHex c = true) :
    bits .or .i32 (wrap32 (wrap32 x * 16)) d = wrap32 (x * 16 + (hexV c : Int)) := by
  have := hexV_lt hc
  subst hv
  rw [hd, or_low _ _ (by omega) (by omega), wrap_step]

set_option maxHeartbeats 400000 in
theorem hexDigits_any (s : ByteArray) (n : Int) (w : World) (hs : s.size ≤ 2097152) (hn : n ≤ 9223372036854775807) :
    Calls Trym.prog 30 #[.string s, .int .i64 n] w fun e w' => e = .returned (.tuple #[.int .i32 (hdV s n), .int .i64 (hdK s n)]) ∧ w' = w := by
  have hls := leadS_le s
  go_enter Trym.func30, Trym.ntmps30
  go_wp2
  go_loop [6, 11] (fun v i => ∃ k : Nat, k ≤ leadS s ∧ (k : Int) ≤ max n 0 ∧ i = .int .i64 k ∧ v = .int .i32 (wrap32 (NT s k))) (fun _ i => s.size - (intOf i).toNat)
  case atStart => exact ⟨0, Nat.zero_le _, by omega, rfl, by rw [NT_zero]⟩
  case round =>
    obtain ⟨k, hk, hkn, rfl, rfl⟩ := hrel
    by_cases hlt : (k : Int) < n
    · by_cases hks : k < s.size
      · by_cases hx : isHex (s[k]).toNat = true
        · have hx' := (isHex_iff _).1 hx
          have hnext := leadS_next s k hk hks hx
          have HS : Hid (NT s (k + 1) = NT s k * 16 + hexV (s[k]).toNat) := NT_succ s k hks
          clear hx
          go_wp2
          all_goals
            go_round
            case rel =>
              refine ⟨k + 1, by omega, by omega, by go_num, ?_⟩
              rw [HS.out]
              refine congrArg (Value.int .i32) ?_
              rw [step_of (c := (s[k]).toNat) (D := hexV (s[k]).toNat) (by unfold hexV; split <;> (try split) <;> omega) rfl ((isHex_iff _).2 hx')]
              push_cast; rfl
            case measure => simp [intOf]; omega
        · have hx' : isHex (s[k]).toNat = false := by simpa using hx
          have hend := leadS_end s k hk hks hx'
          have hx2 : ¬ ((48 ≤ (s[k]).toNat ∧ (s[k]).toNat ≤ 57) ∨ (97 ≤ (s[k]).toNat ∧ (s[k]).toNat ≤ 102) ∨ (65 ≤ (s[k]).toNat ∧ (s[k]).toNat ≤ 70)) := fun h => hx ((isHex_iff _).2 h)
          have H : Hid ((hdV s n = 0 ∧ hdK s n = leadS s) ∧ k = leadS s) := ⟨hd_short s n (by omega) (by omega), hend⟩
          clear hx hx' hend
          go_wp2
          all_goals first
            | (exfalso; omega)
            | (go_ret2; exact ⟨ret2 H.out.1.1.symm (by rw [H.out.1.2, H.out.2]), rfl⟩)
      · have H : Hid ((hdV s n = 0 ∧ hdK s n = leadS s) ∧ k = leadS s) := ⟨hd_short s n (by omega) (by omega), by omega⟩
        go_wp2
        go_ret2
        exact ⟨ret2 H.out.1.1.symm (by rw [H.out.1.2, H.out.2]), rfl⟩
    · by_cases hn0 : n ≤ 0
      · have H : Hid ((hdV s n = 0 ∧ hdK s n = n) ∧ k = 0) := ⟨hd_neg s n hn0, by omega⟩
        go_wp2
        go_ret2
        exact ⟨ret2 (by rw [H.out.1.1, H.out.2, NT_zero]) H.out.1.2.symm, rfl⟩
      · have H : Hid ((hdV s n = wrap32 (NT s n.toNat : Int) ∧ hdK s n = n) ∧ k = n.toNat) := ⟨hd_full s n (by omega) (by omega), by omega⟩
        go_wp2
        go_ret2
        exact ⟨ret2 (by rw [H.out.1.1, H.out.2]) H.out.1.2.symm, rfl⟩

theorem zzHex_any (s : ByteArray) (n : Int) (w : World) (hs : s.size ≤ 2097152) (hn : n ≤ 9223372036854775807) :
    Calls Trym.prog 11 #[.string s, .int .i64 n] w fun e w' => e = .returned (.tuple #[.int .i32 (hdV s n), .int .i64 (hdK s n)]) ∧ w' = w := by
  go_enter Trym.func11, Trym.ntmps11
  go_wp2_with (go_at_call 30; refine (hexDigits_any _ _ _ (by omega) (by omega)).mono ?_; rintro e w' ⟨rfl, rfl⟩)
  go_ret2
  exact ⟨rfl, rfl⟩
/-! hexValue -/
def alpha : ByteArray := { data := #[48, 49, 50, 51, 52, 53, 54, 55, 56, 57, 97, 98, 99, 100, 101, 102, 65, 66, 67, 68, 69, 70] }
theorem alpha_tab : ∀ k : Fin 22, isHex (alpha[k.1]'k.2).toNat = true ∧ hexV (alpha[k.1]'k.2).toNat = if k.1 < 16 then k.1 else k.1 - 6 := by decide +kernel
theorem alpha_all : ∀ c : Fin 256, isHex c.1 = true → ∃ k : Fin 22, (alpha[k.1]'k.2).toNat = c.1 := by decide +kernel
def noneBefore (c k : Nat) : Prop := ∀ (j : Nat) (h : j < 22), j < k → (alpha[j]'h).toNat ≠ c
theorem none_zero (c : Nat) : noneBefore c 0 := fun _ _ h => by omega
theorem none_succ (c k : Nat) (h : k < 22) (hn : noneBefore c k) (e : (((alpha[k]'h).toNat : Int) == (c : Int)) = false) : noneBefore c (k + 1) := by
  intro j hj hjk hc
  rcases Nat.lt_or_ge j k with h' | h'
  · exact hn j hj h' hc
  · have : j = k := by omega
    subst this
    simp at e; omega
theorem none_all (c : Nat) (hc : c < 256) (hn : noneBefore c 22) : isHex c = false := by
  rcases h : isHex c with _ | _
  · rfl
  · obtain ⟨k, hk⟩ := alpha_all ⟨c, hc⟩ h
    exact (hn k.1 k.2 k.2 hk).elim
theorem hit (c k : Nat) (h : k < 22) (e : (((alpha[k]'h).toNat : Int) == (c : Int)) = true) : isHex c = true ∧ hxV c = if k < 16 then (k : Int) else (k : Int) - 6 := by
  have e' : (alpha[k]'h).toNat = c := by simp at e; omega
  have := alpha_tab ⟨k, h⟩
  simp only at this
  rw [e'] at this
  refine ⟨this.1, ?_⟩
  rw [hxV_of this.1, this.2]
  split <;> omega
theorem retHV {a b : Int} {p q : Bool} (h : q = p ∧ b = a) : Ending.returned (.tuple #[.int .u32 a, .bool p]) = .returned (.tuple #[.int .u32 b, .bool q]) := by rw [h.1, h.2]
set_option maxHeartbeats 400000 in
theorem hexValue_any (c : Nat) (w : World) (hc : c < 256) :
    Calls Trym.prog 12 #[.int .u8 c] w fun e w' => e = .returned (.tuple #[.int .u32 (hxV c), .bool (isHex c)]) ∧ w' = w := by
  go_enter Trym.func12, Trym.ntmps12
  go_wp2
  go_loop [4] (fun i => ∃ k : Nat, k ≤ 22 ∧ noneBefore c k ∧ i = .int .i64 k) (fun i => 22 - (intOf i).toNat)
  case atStart => exact ⟨0, Nat.zero_le _, none_zero c, rfl⟩
  case round =>
    obtain ⟨k, hk, hn, rfl⟩ := hrel
    by_cases hlt : k < 22
    · go_wp2
      · go_ret2
        have hh := hit c k hlt ‹_›
        rw [if_pos (by omega)] at hh
        exact ⟨retHV hh, rfl⟩
      · go_ret2
        have hh := hit c k hlt ‹_›
        rw [if_neg (by omega)] at hh
        exact ⟨retHV hh, rfl⟩
      · go_round
        case rel => exact ⟨k + 1, by omega, none_succ c k hlt hn ‹_›, by go_num⟩
        case measure => simp [intOf]; omega
    · have hf := none_all c hc (by rw [show 22 = k from by omega]; exact hn)
      have H : Hid (isHex c = false ∧ hxV c = 0) := ⟨hf, by unfold hxV; rw [if_neg (by rw [hf]; simp)]⟩
      clear hf
      go_wp2
      go_ret2
      exact ⟨retHV H.out, rfl⟩
end Go.Proofs.Qxb6602750aMods.hex

