import Derived.Test.Qxb6602750aModsGivWalks
/-! The walks of makeGivens, lastOf and of the empty copies. -/
namespace Go.Proofs.Qxb6602750aMods.giv
open Go.ChangeShapes Go.WideShapes Go.ChangeAt Go.RowKit
set_option linter.unusedVariables false
set_option maxHeartbeats 400000 in
theorem copyKeys_zero (a : Option Addr) (c : Nat) (w : World) :
    Calls Trym.prog 17 #[.slice a 0 c] w fun e w' => ∃ a', e = .returned (.slice a' 0 0) ∧ Below w.heap.size w w' := by
  obtain ⟨i0, hi, hz0, hz1, hz2⟩ := info_parts Trym.info21
  have hmk := run_make (P := Trym.prog) w 32 21 i0 (.int .i32 0) Trym.underlying32 hi hz0 .i64 .i64 0 0 (by omega) (by omega) (by omega) (by omega)
  have q := q32
  cases a with
  | none =>
    go_enter Trym.func17, Trym.ntmps17
    go_wp2
    go_ret
    exact ⟨none, rfl, Below.refl _ _⟩
  | some x =>
    go_enter Trym.func17, Trym.ntmps17
    go_wp2
    clear hmk q
    go_loopw [4] (fun i wr => i = .int .i64 0 ∧ Below w.heap.size w wr) (fun _ _ => 0)
    case atStart => exact ⟨rfl, (Below.refl _ _).alloc (Nat.le_refl _) _⟩
    case round =>
      obtain ⟨rfl, hbel⟩ := hrel
      go_wp2
      go_ret
      exact ⟨_, rfl, hbel⟩
set_option maxHeartbeats 400000 in
theorem copyFields_zero (a : Option Addr) (c : Nat) (w : World) :
    Calls Trym.prog 18 #[.slice a 0 c] w fun e w' => ∃ a', e = .returned (.slice a' 0 0) ∧ Below w.heap.size w w' := by
  obtain ⟨i0, hi, hz0, hz1, hz2⟩ := info_parts Trym.info58
  have hmk := run_make (P := Trym.prog) w 33 58 i0 (.agg #[.int .i32 0, .bool false, .bool false, .bool false, .bool false]) Trym.underlying33 hi hz0 .i64 .i64 0 0 (by omega) (by omega) (by omega) (by omega)
  have q := q33
  cases a with
  | none =>
    go_enter Trym.func18, Trym.ntmps18
    go_wp2
    go_ret
    exact ⟨none, rfl, Below.refl _ _⟩
  | some x =>
    go_enter Trym.func18, Trym.ntmps18
    go_wp2
    clear hmk q
    go_loopw [4] (fun i wr => i = .int .i64 0 ∧ Below w.heap.size w wr) (fun _ _ => 0)
    case atStart => exact ⟨rfl, (Below.refl _ _).alloc (Nat.le_refl _) _⟩
    case round =>
      obtain ⟨rfl, hbel⟩ := hrel
      go_wp2
      go_ret
      exact ⟨_, rfl, hbel⟩
set_option maxHeartbeats 400000 in
theorem makeGivens_zero (a : Option Addr) (c : Nat) (w : World) :
    Calls Trym.prog 19 #[.slice a 0 c] w fun e w' => ∃ a', e = .returned (.slice a' 0 0) ∧ Below w.heap.size w w' := by
  obtain ⟨i0, hi, hz0, hz1, hz2⟩ := info_parts Trym.info46
  have hmk := run_make (P := Trym.prog) w 39 46 i0 (.agg #[.int .i32 0, .bool false, .bool false, .bool false, .bool false]) Trym.underlying39 hi hz0 .i64 .i64 0 0 (by omega) (by omega) (by omega) (by omega)
  go_enter Trym.func19, Trym.ntmps19
  go_wp2
  clear hmk
  go_loopw [4] (fun i wr => i = .int .i64 0 ∧ Below w.heap.size w wr) (fun _ _ => 0)
  case atStart => exact ⟨rfl, (Below.refl _ _).alloc (Nat.le_refl _) _⟩
  case round =>
    obtain ⟨rfl, hbel⟩ := hrel
    go_wp2
    go_ret
    exact ⟨_, rfl, hbel⟩
theorem makeGiven_any (p : Int) (a1 a2 a3 a4 : Bool) (w : World) :
    Calls Trym.prog 31 #[.int .i32 p, .bool a1, .bool a2, .bool a3, .bool a4] w fun e w' => e = .returned (.agg #[.int .i32 p, .bool a1, .bool a2, .bool a3, .bool a4]) ∧ Below w.heap.size w w' := by
  go_enter Trym.func31, Trym.ntmps31
  go_wp2
  exact bodyPost_ret (v := .agg #[.int .i32 p, .bool a1, .bool a2, .bool a3, .bool a4]) (by simp [results, Trym.results31, go_sem]) rfl ⟨rfl, (Below.refl _ _).alloc (Nat.le_refl _) _⟩

set_option maxHeartbeats 800000 in
theorem makeGivens_pos (b n c : Nat) (fs : List G) (w : World) (hz : fs.length = n) (h0 : 0 < n) (hn : n ≤ 1048576) (hbw : b < w.heap.size) (hr : RowG w b 0 fs) :
    Calls Trym.prog 19 #[.slice (some ⟨b, 0, none⟩) n c] w fun e w' => e = .returned (.slice (some ⟨w.heap.size, 0, none⟩) n n) ∧ RowG w' w.heap.size 0 fs ∧ w.heap.size < w'.heap.size ∧ Below w.heap.size w w' := by
  obtain ⟨i0, hi, hz0, hz1, hz2⟩ := info_parts Trym.info46
  have hmk := run_make (P := Trym.prog) w 39 46 i0 (.agg #[.int .i32 0, .bool false, .bool false, .bool false, .bool false]) Trym.underlying39 hi hz0 .i64 .i64 n n (by omega) (by omega) (by rw [hz2]; omega) (by omega)
  rw [hz1] at hmk
  clear hi hz0 hz1 hz2
  go_enter Trym.func19, Trym.ntmps19
  go_wp2
  clear hmk
  go_loopw [4] (fun i wr => ∃ k : Nat, k ≤ n ∧ i = .int .i64 k ∧ RowG wr w.heap.size 0 (cp fs n k) ∧ Free wr w.heap.size ∧ w.heap.size < wr.heap.size ∧ Below w.heap.size w wr) (fun i _ => n - (intOf i).toNat)
  case atStart => exact ⟨0, by omega, rfl, madeG w 46 n, free_new _ _ _, by simp, (Below.refl _ _).alloc (Nat.le_refl _) _⟩
  case round =>
    obtain ⟨k, hk, rfl, hp, hfr, hsz, hbel⟩ := hrel
    by_cases hlt : k < n
    · obtain ⟨p, a1, a2, a3, a4, hg, s0, s1, s2, s3, s4⟩ := (hr.below hbel hbw).opened0 k (by omega)
      go_wp2_with fail
      refine (makeGiven_any _ _ _ _ _ _).mono ?_
      rintro e w1 ⟨rfl, hb1⟩
      have hB : Below wr.heap.size wr w1 := ((Below.refl _ _).alloc (Nat.le_refl _) _).trans (hb1.mono (by simp))
      have hp1 := hp.below hB hsz
      have hfr1 := hfr.below hB hsz
      have hsz1 : w.heap.size < w1.heap.size := Nat.lt_of_lt_of_le hsz hB.size
      have hbel1 := hbel.trans (hB.mono (Nat.le_of_lt hsz))
      obtain ⟨v0, v1, v2, v3, v4, d0, d1, d2, d3, d4⟩ := hp1.cells0 k (by rw [cp_len]; omega)
      obtain ⟨f0, f1, f2, f3, f4⟩ := hfr1.five k
      clear hb1 hp hfr hsz hbel s0 s1 s2 s3 s4 hB
      go_wp2
      go_roundw
      case rel =>
        obtain ⟨r1, r2, r3, r4⟩ := put_step hp1 (by rw [cp_len]; omega) (cp_next hg.out) hfr1 hsz1 (Nat.le_refl _) hbel1
        exact ⟨k + 1, by omega, by go_num, r1, r2, r3, r4⟩
      case measure => simp [intOf]; omega
    · obtain rfl : k = n := by omega
      go_wp2
      go_ret
      exact ⟨rfl, hp.whole hz, hsz, hbel⟩
theorem retB {a b : Bool} (h : a = b) : Ending.returned (.bool a) = .returned (.bool b) := by rw [h]
theorem last_no {zs : List Int} {i k : Nat} {r : Bool} (h : lastB zs i = r) (hk : k < zs.length) (hik : i < k) (e : (kAt zs k == kAt zs i) = true) : false = r := by
  rw [← h]
  rcases hl : lastB zs i with _ | _
  · rfl
  · exact absurd (by simpa using e) (lastB_true.1 hl k hik hk)
theorem last_yes {zs : List Int} {i : Nat} {r : Bool} (h : lastB zs i = r) (hn : ∀ x, i < x → x < zs.length → kAt zs x ≠ kAt zs i) : true = r := by
  rw [← h]; exact (lastB_true.2 hn).symm
theorem none_next {zs : List Int} {i k : Nat} (hno : ∀ x, i < x → x < k → kAt zs x ≠ kAt zs i) (e : (kAt zs k == kAt zs i) = false) : ∀ x, i < x → x < k + 1 → kAt zs x ≠ kAt zs i := by
  intro x h1 h2 hx
  rcases Nat.lt_or_ge x k with h | h
  · exact hno x h1 h hx
  · have : x = k := by omega
    subst this
    simp [hx] at e
set_option maxHeartbeats 800000 in
theorem lastOf_any (b n c i : Nat) (zs : List Int) (w : World) (hz : zs.length = n) (hi : i < n) (hn : n ≤ 1048576) (hr : RowI w b 0 zs) (r : Bool) (hb : Hid (lastB zs i = r)) :
    Calls Trym.prog 21 #[.slice (some ⟨b, 0, none⟩) n c, .int .i64 i] w fun e w' => e = .returned (.bool r) ∧ ∃ m, w' = w.drewN m := by
  have ci := hr.at0 i (by omega)
  go_enter Trym.func21, Trym.ntmps21
  go_wp2
  go_loopw [5] (fun j wr => ∃ k : Nat, i < k ∧ k ≤ n ∧ j = .int .i64 k ∧ (∀ x, i < x → x < k → kAt zs x ≠ kAt zs i) ∧ ∃ m, wr = w.drewN m) (fun j _ => n - (intOf j).toNat)
  case atStart => exact ⟨i + 1, by omega, by omega, by go_num, fun x h1 h2 => by omega, 0, rfl⟩
  case round =>
    obtain ⟨k, h1, h2, rfl, hno, m, rfl⟩ := hrel
    by_cases hlt : k < n
    · have ck := hr.at0 k (by omega)
      go_wp2
      go_quiet (fail)
      go_wp2
      · go_ret
        have e : (kAt zs k == kAt zs i) = true := by assumption
        exact ⟨retB (last_no hb.out (hz ▸ hlt) h1 e), m + nq, by first | rfl | (rw [World.drewN_drewN])⟩
      · go_roundw
        case rel =>
          have e : (kAt zs k == kAt zs i) = false := by assumption
          exact ⟨k + 1, by omega, by omega, by go_num, none_next hno e, _, rfl⟩
        case measure => simp [intOf]; omega
    · go_wp2
      go_ret
      exact ⟨retB (last_yes hb.out (fun x h3 h4 => hno x h3 (by omega))), _, rfl⟩
end Go.Proofs.Qxb6602750aMods.giv
