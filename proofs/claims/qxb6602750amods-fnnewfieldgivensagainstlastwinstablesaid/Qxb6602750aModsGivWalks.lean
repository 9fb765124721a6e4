import Derived.Test.Qxb6602750aModsRows
import Derived.Test.Qxb6602750aModsGivRows
import Derived.WalkKit
import Derived.ProofKit
import Derived.WalkLawsBesides
import Derived.WalkSpells
import Derived.Lib.SliceRun
import Derived.RegionTactic
import Derived.Deep.QuietTactic
import Derived.BigQuiet
/-! The walks of keyRange, slices.Min, slices.Max, lastOf and of the copies. -/
namespace Go.Proofs.Qxb6602750aMods.giv
open Go.ChangeShapes Go.WideShapes Go.ChangeAt Go.RowKit
set_option linter.unusedVariables false
theorem ret2 {k l : IntKind} {a b c d : Int} (h : a = b) (h' : c = d) : Ending.returned (.tuple #[.int k a, .int l c]) = .returned (.tuple #[.int k b, .int l d]) := by rw [h, h']
theorem ret1 {k : IntKind} {a b : Int} (h : a = b) : Ending.returned (.int k a) = .returned (.int k b) := by rw [h]

theorem bytes15_ok (a b : Option Addr) (n c m d : Nat) (w : World) (h : n + m ≤ 1048576) :
    Calls Trym.prog 15 #[.slice a n c, .slice b m d] w fun e w' => e = .returned (.bool true) ∧ w' = w := by
  go_enter Trym.func15, Trym.ntmps15
  go_wp2
  go_ret
  exact ⟨rfl, rfl⟩
theorem bytes15_no (a b : Option Addr) (n c m d : Nat) (w : World) (h : 1048576 < n + m) (hn : n ≤ maxLen) (hm : m ≤ maxLen) :
    Calls Trym.prog 15 #[.slice a n c, .slice b m d] w fun e w' => e = .returned (.bool false) ∧ w' = w := by
  unfold maxLen at hn hm
  by_cases h1 : 1048576 < n
  · go_enter Trym.func15, Trym.ntmps15
    go_wp2
    go_ret
    exact ⟨rfl, rfl⟩
  · by_cases h2 : 1048576 < m
    · go_enter Trym.func15, Trym.ntmps15
      go_wp2
      go_ret
      exact ⟨rfl, rfl⟩
    · go_enter Trym.func15, Trym.ntmps15
      go_wp2
      go_ret
      exact ⟨rfl, rfl⟩

set_option maxHeartbeats 400000 in
theorem keyRange_any (b o n c : Nat) (zs : List Int) (w : World) (hz : zs.length = n) (h0 : 0 < n) (hn : n ≤ 1048576) (hf : Fits zs) (hr : RowI w b o zs) :
    Calls Trym.prog 16 #[.slice (some ⟨b, o, none⟩) n c] w fun e w' => e = .returned (.tuple #[.int .i64 (mnT zs (n - 1)), .int .i64 (mxT zs (n - 1))]) ∧ w' = w := by
  have hc0 := hr 0 (by omega)
  rw [Nat.add_zero] at hc0
  have hf0 := hf 0
  go_enter Trym.func16, Trym.ntmps16
  go_wp2
  go_loop [4, 5, 6] (fun l h i => ∃ k : Nat, k + 1 ≤ n ∧ i = .int .i64 ((k : Int) + 1) ∧ l = .int .i64 (mnT zs k) ∧ h = .int .i64 (mxT zs k)) (fun _ _ i => n - (intOf i).toNat)
  case atStart => exact ⟨0, by omega, by go_num, rfl, rfl⟩
  case round =>
    obtain ⟨k, hk, rfl, rfl, rfl⟩ := hrel
    by_cases hlt : k + 1 < n
    · have hc := hr (k + 1) (by omega)
      have hfk := hf (k + 1)
      have hb1 := mnT_bd hf k
      have hb2 := mxT_bd hf k
      have HS : Hid (mnT zs (k + 1) = min (mnT zs k) (kAt zs (k + 1)) ∧ mxT zs (k + 1) = max (mxT zs k) (kAt zs (k + 1))) := ⟨rfl, rfl⟩
      go_wp2
      all_goals
        go_round
        case rel => exact ⟨k + 1, by omega, by go_num, congrArg (Value.int .i64) (by rw [HS.out.1]; omega), congrArg (Value.int .i64) (by rw [HS.out.2]; omega)⟩
        case measure => simp [intOf]; omega
    · go_wp2
      go_ret2
      exact ⟨ret2 (by rw [show n - 1 = k from by omega]) (by rw [show n - 1 = k from by omega]), rfl⟩

set_option maxHeartbeats 400000 in
theorem min_any (b o n c : Nat) (zs : List Int) (w : World) (hz : zs.length = n) (h0 : 0 < n) (hn : n ≤ 1048576) (hf : Fits zs) (hr : RowI w b o zs) :
    Calls Trym.prog 35 #[.slice (some ⟨b, o, none⟩) n c] w fun e w' => e = .returned (.int .i32 (mnT zs (n - 1))) ∧ w' = w := by
  have hc0 := hr 0 (by omega)
  rw [Nat.add_zero] at hc0
  have hf0 := hf 0
  go_enter Trym.func35, Trym.ntmps35
  go_wp2
  go_loop [3, 4] (fun l i => ∃ k : Nat, k + 1 ≤ n ∧ i = .int .i64 ((k : Int) + 1) ∧ l = .int .i32 (mnT zs k)) (fun _ i => n - (intOf i).toNat)
  case atStart => exact ⟨0, by omega, by go_num, rfl⟩
  case round =>
    obtain ⟨k, hk, rfl, rfl⟩ := hrel
    by_cases hlt : k + 1 < n
    · have hc := hr (k + 1) (by omega)
      have HS : Hid (mnT zs (k + 1) = min (mnT zs k) (kAt zs (k + 1))) := rfl
      go_wp2
      go_round
      case rel => exact ⟨k + 1, by omega, by go_num, congrArg (Value.int .i32) (by rw [HS.out]; split <;> omega)⟩
      case measure => simp [intOf]; omega
    · go_wp2
      go_ret
      exact ⟨ret1 (by rw [show n - 1 = k from by omega]), rfl⟩
set_option maxHeartbeats 400000 in
theorem max_any (b o n c : Nat) (zs : List Int) (w : World) (hz : zs.length = n) (h0 : 0 < n) (hn : n ≤ 1048576) (hf : Fits zs) (hr : RowI w b o zs) :
    Calls Trym.prog 36 #[.slice (some ⟨b, o, none⟩) n c] w fun e w' => e = .returned (.int .i32 (mxT zs (n - 1))) ∧ w' = w := by
  have hc0 := hr 0 (by omega)
  rw [Nat.add_zero] at hc0
  have hf0 := hf 0
  go_enter Trym.func36, Trym.ntmps36
  go_wp2
  go_loop [3, 4] (fun l i => ∃ k : Nat, k + 1 ≤ n ∧ i = .int .i64 ((k : Int) + 1) ∧ l = .int .i32 (mxT zs k)) (fun _ i => n - (intOf i).toNat)
  case atStart => exact ⟨0, by omega, by go_num, rfl⟩
  case round =>
    obtain ⟨k, hk, rfl, rfl⟩ := hrel
    by_cases hlt : k + 1 < n
    · have hc := hr (k + 1) (by omega)
      have HS : Hid (mxT zs (k + 1) = max (mxT zs k) (kAt zs (k + 1))) := rfl
      go_wp2
      go_round
      case rel => exact ⟨k + 1, by omega, by go_num, congrArg (Value.int .i32) (by rw [HS.out]; split <;> omega)⟩
      case measure => simp [intOf]; omega
    · go_wp2
      go_ret
      exact ⟨ret1 (by rw [show n - 1 = k from by omega]), rfl⟩

theorem Trym.info21 : (Trym.prog.info? 21).map (fun i => (i.zero, i.size, i.bytes)) = some (some (.int .i32 0), 1, 4) := by kernel_rfl
theorem Trym.info58 : (Trym.prog.info? 58).map (fun i => (i.zero, i.size, i.bytes)) = some (some (.agg #[.int .i32 0, .bool false, .bool false, .bool false, .bool false]), 5, 8) := by kernel_rfl
theorem Trym.info46 : (Trym.prog.info? 46).map (fun i => (i.zero, i.size, i.bytes)) = some (some (.agg #[.int .i32 0, .bool false, .bool false, .bool false, .bool false]), 5, 8) := by kernel_rfl
theorem q32 : ∀ (w : World) (a : Option Addr) (n c n' c' : Nat), (binOp .eql 32 (.slice a n c) (.slice none n' c')).run Trym.prog w = .ok (.bool a.isNone) w := fun w a n c n' c' => Lib.run_eql_slice_nil w _ _ a n c n' c' Trym.underlying32
theorem q33 : ∀ (w : World) (a : Option Addr) (n c n' c' : Nat), (binOp .eql 33 (.slice a n c) (.slice none n' c')).run Trym.prog w = .ok (.bool a.isNone) w := fun w a n c n' c' => Lib.run_eql_slice_nil w _ _ a n c n' c' Trym.underlying33
set_option maxHeartbeats 400000 in
theorem copyKeys_pos (b o n c : Nat) (zs : List Int) (w : World) (hz : zs.length = n) (h0 : 0 < n) (hn : n ≤ 1048576) (hbw : b < w.heap.size) (hr : RowI w b o zs) :
    Calls Trym.prog 17 #[.slice (some ⟨b, o, none⟩) n c] w fun e w' => e = .returned (.slice (some ⟨w.heap.size, 0, none⟩) n n) ∧ RowI w' w.heap.size 0 zs ∧ w.heap.size < w'.heap.size ∧ Below w.heap.size w w' := by
  obtain ⟨i0, hi, hz0, hz1, hz2⟩ := info_parts Trym.info21
  have hmk := run_make (P := Trym.prog) w 32 21 i0 (.int .i32 0) Trym.underlying32 hi hz0 .i64 .i64 n n (by omega) (by omega) (by rw [hz2]; omega) (by omega)
  rw [hz1] at hmk
  clear hi hz0 hz1 hz2
  have q := q32
  go_enter Trym.func17, Trym.ntmps17
  go_wp2
  clear hmk q
  go_loopw [4] (fun i wr => ∃ k : Nat, k ≤ n ∧ i = .int .i64 k ∧ PartI wr w.heap.size zs k ∧ Free wr w.heap.size ∧ w.heap.size < wr.heap.size ∧ Below w.heap.size w wr) (fun i _ => n - (intOf i).toNat)
  case atStart =>
    refine ⟨0, by omega, rfl, ?_, free_new _ _ _, by simp, (Below.refl _ _).alloc (Nat.le_refl _) _⟩
    have := madeI w 21 zs (.int .i32 0)
    rw [hz] at this
    exact this
  case round =>
    obtain ⟨k, hk, rfl, hp, hfr, hsz, hbel⟩ := hrel
    by_cases hlt : k < n
    · have hc := (hr.below hbel hbw) k (by omega)
      obtain ⟨v0, hc1⟩ := hp.2 k (by omega)
      have hf1 := hfr k
      go_wp2
      go_roundw
      case rel => exact ⟨k + 1, by omega, by go_num, hp.step (by omega), hfr.set _ _, by simpa using hsz, hbel.setCell (Nat.le_refl _) _⟩
      case measure => simp [intOf]; omega
    · obtain rfl : k = n := by omega
      go_wp2
      go_ret
      subst hz
      exact ⟨rfl, hp.whole, hsz, hbel⟩

/-- the copy behind k rounds -/
def cp (fs : List G) (n : Nat) : Nat → List G
  | 0 => List.replicate n gz
  | k + 1 => (cp fs n k).set k (gAt fs k)
theorem cp_len (fs : List G) (n : Nat) : ∀ k, (cp fs n k).length = n
  | 0 => by simp [cp]
  | k + 1 => by rw [cp, List.length_set, cp_len fs n k]
theorem cp_at (fs : List G) (n : Nat) : ∀ k, k ≤ n → ∀ i, i < k → gAt (cp fs n k) i = gAt fs i
  | 0, _, i, hi => by omega
  | k + 1, hk, i, hi => by
    rw [cp]
    by_cases e : i = k
    · subst e; rw [gAt_set_same _ _ _ (by rw [cp_len]; omega)]
    · rw [gAt_set_other _ _ _ _ (fun e' => e e'.symm)]; exact cp_at fs n k (by omega) i (by omega)
theorem RowG.whole {W : World} {b n : Nat} {fs : List G} (h : RowG W b 0 (cp fs n n)) (hn : fs.length = n) : RowG W b 0 fs := by
  intro i hi
  have := h i (by rw [cp_len]; omega)
  rwa [cp_at fs n n (Nat.le_refl _) i (by omega)] at this
theorem RowG.opened {W : World} {b o : Nat} {fs : List G} (h : RowG W b o fs) (i : Nat) (hi : i < fs.length) : ∃ p a1 a2 a3 a4, Hid (gAt fs i = (p, a1, a2, a3, a4)) ∧
    W.cell? ⟨b, o + i * 5, none⟩ = some (.int .i32 p) ∧ W.cell? ⟨b, o + i * 5 + 1, none⟩ = some (.bool a1) ∧ W.cell? ⟨b, o + i * 5 + 2, none⟩ = some (.bool a2) ∧
    W.cell? ⟨b, o + i * 5 + 3, none⟩ = some (.bool a3) ∧ W.cell? ⟨b, o + i * 5 + 4, none⟩ = some (.bool a4) := by
  obtain ⟨h0, h1, h2, h3, h4⟩ := h i hi
  exact ⟨_, _, _, _, _, rfl, h0, h1, h2, h3, h4⟩
theorem RowG.opened0 {W : World} {b : Nat} {fs : List G} (h : RowG W b 0 fs) (i : Nat) (hi : i < fs.length) : ∃ p a1 a2 a3 a4, Hid (gAt fs i = (p, a1, a2, a3, a4)) ∧
    W.cell? ⟨b, i * 5, none⟩ = some (.int .i32 p) ∧ W.cell? ⟨b, i * 5 + 1, none⟩ = some (.bool a1) ∧ W.cell? ⟨b, i * 5 + 2, none⟩ = some (.bool a2) ∧
    W.cell? ⟨b, i * 5 + 3, none⟩ = some (.bool a3) ∧ W.cell? ⟨b, i * 5 + 4, none⟩ = some (.bool a4) := by
  obtain ⟨h0, h1, h2, h3, h4⟩ := h.at0 i hi
  exact ⟨_, _, _, _, _, rfl, h0, h1, h2, h3, h4⟩
theorem RowG.cells0 {W : World} {b : Nat} {fs : List G} (h : RowG W b 0 fs) (i : Nat) (hi : i < fs.length) : ∃ v0 v1 v2 v3 v4,
    W.cell? ⟨b, i * 5, none⟩ = some v0 ∧ W.cell? ⟨b, i * 5 + 1, none⟩ = some v1 ∧ W.cell? ⟨b, i * 5 + 2, none⟩ = some v2 ∧ W.cell? ⟨b, i * 5 + 3, none⟩ = some v3 ∧ W.cell? ⟨b, i * 5 + 4, none⟩ = some v4 := by
  obtain ⟨h0, h1, h2, h3, h4⟩ := h.at0 i hi
  exact ⟨_, _, _, _, _, h0, h1, h2, h3, h4⟩
theorem Free.five {W : World} {b : Nat} (h : Free W b) (i : Nat) : W.frozen? ⟨b, i * 5, none⟩ = false ∧ W.frozen? ⟨b, i * 5 + 1, none⟩ = false ∧ W.frozen? ⟨b, i * 5 + 2, none⟩ = false ∧ W.frozen? ⟨b, i * 5 + 3, none⟩ = false ∧ W.frozen? ⟨b, i * 5 + 4, none⟩ = false :=
  ⟨h _, h _, h _, h _, h _⟩
/-- a store of a given into a row of the call's own, as the walk spells it -/
theorem put_step {wr w : World} {B M j : Nat} {l l' : List G} {p : Int} {a1 a2 a3 a4 : Bool} (hp : RowG wr B 0 l) (hj : j < l.length) (hl : l' = l.set j (p, a1, a2, a3, a4)) (hfr : Free wr B) (hsz : B < wr.heap.size) (hM : M ≤ B) (hbel : Below M w wr) :
    RowG (((((wr.setCell ⟨B, j * 5, none⟩ (.int .i32 p)).setCell ⟨B, j * 5 + 1, none⟩ (.bool a1)).setCell ⟨B, j * 5 + 2, none⟩ (.bool a2)).setCell ⟨B, j * 5 + 3, none⟩ (.bool a3)).setCell ⟨B, j * 5 + 4, none⟩ (.bool a4)) B 0 l' ∧
    Free (((((wr.setCell ⟨B, j * 5, none⟩ (.int .i32 p)).setCell ⟨B, j * 5 + 1, none⟩ (.bool a1)).setCell ⟨B, j * 5 + 2, none⟩ (.bool a2)).setCell ⟨B, j * 5 + 3, none⟩ (.bool a3)).setCell ⟨B, j * 5 + 4, none⟩ (.bool a4)) B ∧
    B < (((((wr.setCell ⟨B, j * 5, none⟩ (.int .i32 p)).setCell ⟨B, j * 5 + 1, none⟩ (.bool a1)).setCell ⟨B, j * 5 + 2, none⟩ (.bool a2)).setCell ⟨B, j * 5 + 3, none⟩ (.bool a3)).setCell ⟨B, j * 5 + 4, none⟩ (.bool a4)).heap.size ∧
    Below M w (((((wr.setCell ⟨B, j * 5, none⟩ (.int .i32 p)).setCell ⟨B, j * 5 + 1, none⟩ (.bool a1)).setCell ⟨B, j * 5 + 2, none⟩ (.bool a2)).setCell ⟨B, j * 5 + 3, none⟩ (.bool a3)).setCell ⟨B, j * 5 + 4, none⟩ (.bool a4)) := by
  subst hl
  refine ⟨hp.set j hj (p, a1, a2, a3, a4), hfr.put5 (g := (p, a1, a2, a3, a4)), ?_, below_put5 (g := (p, a1, a2, a3, a4)) hbel hM⟩
  have e : (put5 wr B (j * 5) (p, a1, a2, a3, a4)).heap.size = wr.heap.size := put5_size
  exact Nat.lt_of_lt_of_eq hsz e.symm
theorem cp_next {fs : List G} {n k : Nat} {g : G} (h : gAt fs k = g) : cp fs n (k + 1) = (cp fs n k).set k g := by rw [cp, h]
set_option maxHeartbeats 400000 in
theorem copyFields_pos (b o n c : Nat) (fs : List G) (w : World) (hz : fs.length = n) (h0 : 0 < n) (hn : n ≤ 1048576) (hbw : b < w.heap.size) (hr : RowG w b o fs) :
    Calls Trym.prog 18 #[.slice (some ⟨b, o, none⟩) n c] w fun e w' => e = .returned (.slice (some ⟨w.heap.size, 0, none⟩) n n) ∧ RowG w' w.heap.size 0 fs ∧ w.heap.size < w'.heap.size ∧ Below w.heap.size w w' := by
  obtain ⟨i0, hi, hz0, hz1, hz2⟩ := info_parts Trym.info58
  have hmk := run_make (P := Trym.prog) w 33 58 i0 (.agg #[.int .i32 0, .bool false, .bool false, .bool false, .bool false]) Trym.underlying33 hi hz0 .i64 .i64 n n (by omega) (by omega) (by rw [hz2]; omega) (by omega)
  rw [hz1] at hmk
  clear hi hz0 hz1 hz2
  have q := q33
  go_enter Trym.func18, Trym.ntmps18
  go_wp2
  clear hmk q
  go_loopw [4] (fun i wr => ∃ k : Nat, k ≤ n ∧ i = .int .i64 k ∧ RowG wr w.heap.size 0 (cp fs n k) ∧ Free wr w.heap.size ∧ w.heap.size < wr.heap.size ∧ Below w.heap.size w wr) (fun i _ => n - (intOf i).toNat)
  case atStart => exact ⟨0, by omega, rfl, madeG w 58 n, free_new _ _ _, by simp, (Below.refl _ _).alloc (Nat.le_refl _) _⟩
  case round =>
    obtain ⟨k, hk, rfl, hp, hfr, hsz, hbel⟩ := hrel
    by_cases hlt : k < n
    · obtain ⟨p, a1, a2, a3, a4, hg, s0, s1, s2, s3, s4⟩ := (hr.below hbel hbw).opened k (by omega)
      obtain ⟨v0, v1, v2, v3, v4, d0, d1, d2, d3, d4⟩ := hp.cells0 k (by rw [cp_len]; omega)
      obtain ⟨f0, f1, f2, f3, f4⟩ := hfr.five k
      go_wp2
      go_roundw
      case rel =>
        obtain ⟨r1, r2, r3, r4⟩ := put_step hp (by rw [cp_len]; omega) (cp_next hg.out) hfr hsz (Nat.le_refl _) hbel
        exact ⟨k + 1, by omega, by go_num, r1, r2, r3, r4⟩
      case measure => simp [intOf]; omega
    · obtain rfl : k = n := by omega
      go_wp2
      go_ret
      exact ⟨rfl, hp.whole hz, hsz, hbel⟩
end Go.Proofs.Qxb6602750aMods.giv
