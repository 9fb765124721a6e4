import Derived.Test.Qxb6602200aModsRows
import Derived.Test.Qxb6602200aModsNumPlain
import Derived.WalkKit
import Derived.ProofKit
import Derived.WalkLawsBesides
import Derived.Laws.IdiomStrings
import Derived.Deep.QuietTactic
import Derived.BigQuiet
/-! The walks of dateTimeText.number and of its callers' helpers. -/
namespace Go.Proofs.Qxb6602200aMods.num
open Go.ChangeShapes Go.WideShapes Go.ChangeAt Go.RowKit
set_option linter.unusedVariables false
theorem bytes7_ok (s : ByteArray) (ok : Bool) (n lo hi : Int) (w : World) (hs : s.size ≤ 1048576) :
    Calls Trym.prog 7 #[.string s, .bool ok, .int .i64 n, .int .i64 lo, .int .i64 hi] w fun e w' => e = .returned (.bool true) ∧ w' = w := by
  go_enter Trym.func7, Trym.ntmps7
  go_wp2
  go_ret
  exact ⟨rfl, rfl⟩
theorem bytes7_no (s : ByteArray) (ok : Bool) (n lo hi : Int) (w : World) (hs : 1048576 < s.size) (hs' : s.size ≤ maxLen) :
    Calls Trym.prog 7 #[.string s, .bool ok, .int .i64 n, .int .i64 lo, .int .i64 hi] w fun e w' => e = .returned (.bool false) ∧ w' = w := by
  unfold maxLen at hs'
  go_enter Trym.func7, Trym.ntmps7
  go_wp2
  go_ret
  exact ⟨rfl, rfl⟩
theorem retI {k : IntKind} {a b : Int} (h : a = b) : Ending.returned (.int k a) = .returned (.int k b) := by rw [h]
/-- numAllDigits: the first n bytes are digits -/
theorem allDigits_yes (s : ByteArray) (n : Int) (w : World) (hs : s.size ≤ 2097152) (hn : n ≤ leadS s) :
    Calls Trym.prog 9 #[.string s, .int .i64 n] w fun e w' => e = .returned (.bool true) ∧ w' = w := by
  have hls := leadS_le s
  go_enter Trym.func9, Trym.ntmps9
  go_wp2
  go_loop [5] (fun i => ∃ k : Nat, k ≤ leadS s ∧ i = .int .i64 k) (fun i => s.size - (intOf i).toNat)
  case atStart => exact ⟨0, Nat.zero_le _, rfl⟩
  case round =>
    obtain ⟨k, hk, rfl⟩ := hrel
    by_cases hlt : (k : Int) < n
    · have hd := leadS_hit s k (by omega) (by omega)
      go_wp2
      go_round
      case rel => exact ⟨k + 1, by omega, by go_num⟩
      case measure => simp [intOf]; omega
    · go_wp2
      go_ret
      exact ⟨rfl, rfl⟩
theorem allDigits_no (s : ByteArray) (n : Int) (w : World) (hs : s.size ≤ 2097152) (hn : n ≤ s.size) (hl : (leadS s : Int) < n) :
    Calls Trym.prog 9 #[.string s, .int .i64 n] w fun e w' => e = .returned (.bool false) ∧ w' = w := by
  have hls := leadS_le s
  go_enter Trym.func9, Trym.ntmps9
  go_wp2
  go_loop [5] (fun i => ∃ k : Nat, k ≤ leadS s ∧ i = .int .i64 k) (fun i => s.size - (intOf i).toNat)
  case atStart => exact ⟨0, Nat.zero_le _, rfl⟩
  case round =>
    obtain ⟨k, hk, rfl⟩ := hrel
    by_cases hkl : k < leadS s
    · have hd := leadS_hit s k hkl (by omega)
      go_wp2
      go_round
      case rel => exact ⟨k + 1, by omega, by go_num⟩
      case measure => simp [intOf]; omega
    · have hd := leadS_stop s k (by omega) (by omega)
      go_wp2
      all_goals (go_ret; exact ⟨rfl, rfl⟩)
theorem fromRight_any (s : ByteArray) (n : Int) (w : World) (hs : s.size ≤ 2097152) (h0 : 0 ≤ n) (hn : n ≤ leadS s) :
    Calls Trym.prog 10 #[.string s, .int .i64 n] w fun e w' => e = .returned (.int .i64 (V s n.toNat)) ∧ w' = w := by
  have hls := leadS_le s
  go_enter Trym.func10, Trym.ntmps10
  go_wp2
  go_loop [5, 6, 7] (fun v p j => ∃ m : Nat, (m : Int) ≤ n ∧ v = .int .i64 (RV s n.toNat m) ∧ p = .int .i64 (pw m) ∧ j = .int .i64 (n - 1 - m)) (fun _ _ j => (intOf j + 1).toNat)
  case atStart => exact ⟨0, by omega, by rw [RV_zero], by rw [pw_zero], by go_num⟩
  case round =>
    obtain ⟨m, hm, rfl, rfl, rfl⟩ := hrel
    by_cases hgo : (m : Int) < n
    · have hd := leadS_hit s (n.toNat - 1 - m) (by omega) (by omega)
      go_wp2
      go_round
      case rel =>
        exact ⟨m + 1, by omega, by rw [RV_succ s n.toNat m (by omega) (by omega) (by omega) hd.1], by rw [pw_succ], congrArg (Value.int .i64) (by omega)⟩
      case measure => simp [intOf]; omega
    · go_wp2
      go_ret
      exact ⟨retI (by rw [← RV_full, show n.toNat = m from by omega]), rfl⟩

theorem set_same {w : World} {a : Addr} {u v : Value} (h : w.cell? a = some u) : (w.setCell a v).cell? a = some v := World.cell?_setCell_same' w a v (by rw [h]; rfl)
theorem set_other {w : World} {a b : Addr} {u v : Value} (h : a ≠ b) (hb : w.cell? b = some u) : (w.setCell a v).cell? b = some u := (World.cell?_setCell_other w a b v h).trans hb
/-- behind '[]byte(s[:n])': the new row's cells; all that was there -/
theorem mid (w W : World) (s : ByteArray) (n cap : Nat) (mk : Nat × Nat) (hn : n ≤ s.size) (hW : Below W.heap.size W w) :
    ∃ W1 : World, W1 = (w.alloc (.cells (bytesRow (s.extract 0 n) cap) 5 mk)).drew ∧
      (∀ (k : Nat) (_ : k < n) (h' : k < s.size), W1.cell? ⟨w.heap.size, k, none⟩ = some (.int .u8 (s[k].toNat))) ∧
      (∀ (b o : Nat), b < w.heap.size → W1.cell? ⟨b, o, none⟩ = w.cell? ⟨b, o, none⟩) ∧
      (∀ (b o : Nat), b < w.heap.size → W1.frozen? ⟨b, o, none⟩ = w.frozen? ⟨b, o, none⟩) ∧ Below W.heap.size W W1 := by
  have hB : Below w.heap.size w (w.alloc (.cells (bytesRow (s.extract 0 n) cap) 5 mk)).drew := ((Below.refl _ _).alloc (Nat.le_refl _) _).drew
  refine ⟨_, rfl, ?_, fun b o h => hB.cell (p := ⟨b, o, none⟩) h, fun b o h => hB.frozen (p := ⟨b, o, none⟩) h, hW.trans (hB.mono hW.size)⟩
  intro k h _
  show (w.alloc (.cells (bytesRow (s.extract 0 n) cap) 5 mk)).cell? ⟨w.heap.size, k, none⟩ = _
  rw [World.cell?_alloc_mark, bytesRow_at _ _ _ (by simp only [ByteArray.data_extract, Array.size_extract]; have : s.data.size = s.size := rfl; omega)]
  simp only [ByteArray.data_extract, Array.getElem_extract, Nat.zero_add]
  rfl

set_option maxHeartbeats 800000 in
theorem number_ok (s : ByteArray) (n lo hi : Int) (b : Nat) (w W : World) (hs : s.size ≤ 2097152) (h0 : 0 ≤ n) (hn : n ≤ leadS s)
    (hlo : lo ≤ V s n.toNat) (hhi : V s n.toNat ≤ hi)
    (hc0 : w.cell? ⟨b, 0, none⟩ = some (.string s)) (hc1 : w.cell? ⟨b, 1, none⟩ = some (.bool true)) (hf0 : w.frozen? ⟨b, 0, none⟩ = false) (hf1 : w.frozen? ⟨b, 1, none⟩ = false)
    (hW : Below W.heap.size W w) (hb : W.heap.size ≤ b) (hbw : b < w.heap.size) :
    Calls Trym.prog 20 #[.pointer (some ⟨b, 0, none⟩), .int .i64 n, .int .i64 lo, .int .i64 hi] w fun e w' => e = .returned (.int .i64 (V s n.toNat)) ∧
      w'.cell? ⟨b, 0, none⟩ = some (.string (s.extract n.toNat s.size)) ∧ w'.cell? ⟨b, 1, none⟩ = some (.bool true) ∧ Below W.heap.size W w' := by
  have hls := leadS_le s
  have hcv := fun w s => run_bytes_of_string (P := Trym.prog) w 9 45 5 s Trym.underlying9 Trym.underlying45 Trym.underlying5
  obtain ⟨W1, hW1, m1, m2, m3, m4⟩ := mid w W s n.toNat (grownCap w n.toNat 0 5) ((bytesRow (s.extract 0 n.toNat) (grownCap w n.toNat 0 5)).size, (bytesRow (s.extract 0 n.toNat) (grownCap w n.toNat 0 5)).size + 1) (by omega) hW
  have HW1 : Hid (W1 = (w.alloc (.cells (bytesRow (s.extract 0 n.toNat) (grownCap w n.toNat 0 5)) 5 ((bytesRow (s.extract 0 n.toNat) (grownCap w n.toNat 0 5)).size, (bytesRow (s.extract 0 n.toNat) (grownCap w n.toNat 0 5)).size + 1))).drew) := hW1
  clear hW1
  have c0 := (m2 b 0 hbw).trans hc0
  have c1 := (m2 b 1 hbw).trans hc1
  have f0 := (m3 b 0 hbw).trans hf0
  go_enter Trym.func20, Trym.ntmps20
  go_wp2
  rw [← HW1.out]
  clear hcv hc0 hc1 hf0 hf1 m2 m3 HW1
  go_loop [9, 37] (fun v i => ∃ k : Nat, (k : Int) ≤ n ∧ i = .int .i64 k ∧ v = .int .i64 (V s k)) (fun _ i => (n - intOf i).toNat)
  case atStart => exact ⟨0, by omega, rfl, by rw [V_zero]⟩
  case round =>
    obtain ⟨k, hk, rfl, rfl⟩ := hrel
    have hvb := V_bd s k
    by_cases hlt : (k : Int) < n
    · have hd := leadS_hit s k (by omega) (by omega)
      have hcell := m1 k (by omega) (by omega)
      go_wp2
      go_round
      case rel => exact ⟨k + 1, by omega, by go_num, by rw [← V_succ s k (by omega) hd]⟩
      case measure => simp [intOf]; omega
    · obtain rfl : k = n.toNat := by omega
      go_wp2
      go_ret
      exact ⟨rfl, set_same c0, set_other (by simp) c1, m4.setCell hb _⟩

set_option maxHeartbeats 1600000 in
theorem number_fail (s : ByteArray) (ok : Bool) (n lo hi : Int) (b : Nat) (w W : World) (hs : s.size ≤ 2097152)
    (hF : ok = false ∨ (ok = true ∧ 0 ≤ n ∧ ((s.size : Int) < n ∨ (n ≤ s.size ∧ (leadS s : Int) < n) ∨ (n ≤ leadS s ∧ V s n.toNat < lo) ∨ (n ≤ leadS s ∧ lo ≤ V s n.toNat ∧ hi < V s n.toNat))))
    (hc0 : w.cell? ⟨b, 0, none⟩ = some (.string s)) (hc1 : w.cell? ⟨b, 1, none⟩ = some (.bool ok)) (hf0 : w.frozen? ⟨b, 0, none⟩ = false) (hf1 : w.frozen? ⟨b, 1, none⟩ = false)
    (hW : Below W.heap.size W w) (hb : W.heap.size ≤ b) (hbw : b < w.heap.size) :
    Calls Trym.prog 20 #[.pointer (some ⟨b, 0, none⟩), .int .i64 n, .int .i64 lo, .int .i64 hi] w fun e w' => e = .returned (.int .i64 0) ∧
      w'.cell? ⟨b, 0, none⟩ = some (.string s) ∧ w'.cell? ⟨b, 1, none⟩ = some (.bool false) ∧ Below W.heap.size W w' := by
  have hls := leadS_le s
  rcases hF with rfl | ⟨rfl, h0, h | h | h⟩
  · go_enter Trym.func20, Trym.ntmps20
    go_wp2
    go_ret
    exact ⟨rfl, set_other (by simp) hc0, set_same hc1, hW.setCell hb _⟩
  · go_enter Trym.func20, Trym.ntmps20
    go_wp2
    go_ret
    exact ⟨rfl, set_other (by simp) hc0, set_same hc1, hW.setCell hb _⟩
  all_goals
    have hcv := fun w s => run_bytes_of_string (P := Trym.prog) w 9 45 5 s Trym.underlying9 Trym.underlying45 Trym.underlying5
    obtain ⟨W1, hW1, m1, m2, m3, m4⟩ := mid w W s n.toNat (grownCap w n.toNat 0 5) ((bytesRow (s.extract 0 n.toNat) (grownCap w n.toNat 0 5)).size, (bytesRow (s.extract 0 n.toNat) (grownCap w n.toNat 0 5)).size + 1) (by omega) hW
    have HW1 : Hid (W1 = (w.alloc (.cells (bytesRow (s.extract 0 n.toNat) (grownCap w n.toNat 0 5)) 5 ((bytesRow (s.extract 0 n.toNat) (grownCap w n.toNat 0 5)).size, (bytesRow (s.extract 0 n.toNat) (grownCap w n.toNat 0 5)).size + 1))).drew) := hW1
    clear hW1
    have c0 := (m2 b 0 hbw).trans hc0
    have c1 := (m2 b 1 hbw).trans hc1
    have f1 := (m3 b 1 hbw).trans hf1
    have hns : n ≤ s.size := by omega
    go_enter Trym.func20, Trym.ntmps20
    go_wp2
    rw [← HW1.out]
    clear hcv hc0 hc1 hf0 hf1 m2 m3 HW1
    go_loop [9, 37] (fun v i => ∃ k : Nat, (k : Int) ≤ n ∧ k ≤ leadS s ∧ i = .int .i64 k ∧ v = .int .i64 (V s k)) (fun _ i => (n - intOf i).toNat)
    case atStart => exact ⟨0, by omega, by omega, rfl, by rw [V_zero]⟩
    case round =>
      obtain ⟨k, hk, hkl, rfl, rfl⟩ := hrel
      have hvb := V_bd s k
      by_cases hlt : (k : Int) < n
      · have hcell := m1 k (by omega) (by omega)
        by_cases hlt2 : k < leadS s
        · have hd := leadS_hit s k hlt2 (by omega)
          go_wp2
          go_round
          case rel => exact ⟨k + 1, by omega, by omega, by go_num, by rw [← V_succ s k (by omega) hd]⟩
          case measure => simp [intOf]; omega
        · have hd := leadS_stop s k (by omega) (by omega)
          go_wp2
          all_goals
            go_ret
            exact ⟨rfl, set_other (by simp) c0, set_same c1, m4.setCell hb _⟩
      · obtain rfl : k = n.toNat := by omega
        go_wp2
        all_goals
          go_ret
          exact ⟨rfl, set_other (by simp) c0, set_same c1, m4.setCell hb _⟩
end Go.Proofs.Qxb6602200aMods.num
