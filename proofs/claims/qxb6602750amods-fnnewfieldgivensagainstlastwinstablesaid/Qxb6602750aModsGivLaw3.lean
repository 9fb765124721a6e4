import Derived.Test.Qxb6602750aModsGivLaw2
/-! The walk of FnNewFieldGivensAgainstLastWinsTable: the way of the slice. -/
namespace Go.Proofs.Qxb6602750aMods.giv
open Go.ChangeShapes Go.WideShapes Go.ChangeAt Go.RowKit Go.Maps
set_option linter.unusedVariables false
theorem Trym.info4 : (Trym.prog.info? 4).map (fun i => (i.zero, i.size, i.bytes)) = some (some (.bool false), 1, 1) := by kernel_rfl
theorem zzn_dense_c (kb gb n kc m gc c : Nat) (zs : List Int) (fs : List G) (lo hi : Int) (w : World) (hcc : Hid ((hi - lo + 1).toNat = c)) (hl : Hid (mnT zs (n - 1) = lo)) (hh : Hid (mxT zs (n - 1) = hi)) (hz : zs.length = n) (hfl : fs.length = m) (h0 : 0 < n) (hnm : n ≤ m) (hn : n ≤ 4096)
    (hlo : -2147483648 ≤ lo) (hlh : lo ≤ hi) (hhi : hi ≤ 2147483647) (hbig : hi - lo < 2 * (n : Int))
    (hf : Fits zs) (hkb : kb < w.heap.size) (hgb : gb < w.heap.size) (hr : RowI w kb 0 zs) (hg : RowG w gb 0 fs) :
    Calls Trym.prog 20 #[.slice (some ⟨kb, 0, none⟩) n kc, .slice (some ⟨gb, 0, none⟩) m gc] w fun e w' => ∃ bd, e = .returned (.tuple #[.int .i32 lo, .slice (some ⟨bd, 0, none⟩) c c, .map none]) ∧
      RowG w' bd 0 (dn zs fs lo c n) ∧ bd < w'.heap.size ∧ Below w.heap.size w w' := by
  have e := hcc.out
  subst e
  exact zzn_dense kb gb n kc m gc zs fs lo hi w hl hh hz hfl h0 hnm hn hlo hlh hhi hbig hf hkb hgb hr hg
/-- the state of the loop that marks what was hit: the row of marks in block w4.heap.size; all older blocks as they were -/
structure Hit (w4 : World) (l : List Bool) (wr : World) : Prop where
  row : RowB wr w4.heap.size l
  free : Free wr w4.heap.size
  size : w4.heap.size < wr.heap.size
  old : Below w4.heap.size w4 wr
theorem hit_start (w4 : World) (c : Nat) : Hit w4 (List.replicate c false) (w4.alloc (.cells (madeCells #[.bool false] c) 4)) :=
  ⟨madeB w4 4 c, free_new _ _ _, by simp, (Below.refl _ _).alloc (Nat.le_refl _) _⟩
theorem hit_step {w4 wr : World} {l : List Bool} {j : Nat} (h : Hit w4 l wr) (hj : j < l.length) : ∃ ws, ws = wr.setCell ⟨w4.heap.size, j, none⟩ (.bool true) ∧ Hit w4 (l.set j true) ws :=
  ⟨_, rfl, h.row.set j hj true, h.free.set _ _, by have := h.size; simpa [World.setCell] using this, h.old.setCell (Nat.le_refl _) _⟩
theorem Hit.drewN {w4 wr : World} {l : List Bool} {q : Nat} (h : Hit w4 l wr) : Hit w4 l (wr.drewN q) := ⟨h.row, h.free, h.size, below_drewN h.old⟩
set_option maxRecDepth 100000 in
set_option maxHeartbeats 1600000 in
theorem law_dense (kb ko n kc fb fo m fc c : Nat) (zs : List Int) (fs : List G) (lo hi : Int) (w : World) (hcc : Hid ((hi - lo + 1).toNat = c)) (hc1 : (c : Int) ≤ hi - lo + 1) (hc2 : hi - lo + 1 ≤ (c : Int)) (hl : Hid (mnT zs (n - 1) = lo)) (hh : Hid (mxT zs (n - 1) = hi)) (hz : zs.length = n) (hfl : fs.length = m) (h0 : 0 < n) (hn : n ≤ 4096) (hm : m ≤ 65536) (hnm : n ≤ m)
    (hlo : -2147483648 ≤ lo) (hlh : lo ≤ hi) (hhi : hi ≤ 2147483647) (hbig : hi - lo < 2 * (n : Int)) (hf : Fits zs) (hkb : kb < w.heap.size) (hfb : fb < w.heap.size) (hr : RowI w kb ko zs) (hg : RowG w fb fo fs) :
    Calls Trym.prog 5 #[.slice (some ⟨kb, ko, none⟩) n kc, .slice (some ⟨fb, fo, none⟩) m fc] w fun e w' => e = .returned (.bool true) ∧ Below w.heap.size w w' := by
  have e41 := n41
  have en0 : ((n : Int) == 0) = false := by simp; omega
  have ecc : ((c : Int) != hi - lo + 1) = false := by simp; omega
  have ell : (lo != lo) = false := by simp
  obtain ⟨i0, hi0, hz0, hz1, hz2⟩ := info_parts Trym.info4
  have hmk := fun W => run_make (P := Trym.prog) W 48 4 i0 (.bool false) Trym.underlying48 hi0 hz0 .i64 .i64 c c (by omega) (by omega) (by rw [hz2]; omega) (by omega)
  rw [hz1] at hmk
  clear hi0 hz0 hz1 hz2
  go_enter Trym.func5, Trym.ntmps5
  go_wp2_with (first
    | (go_at_call 15; refine (bytes15_ok _ _ _ _ _ _ _ (by omega)).mono ?_; rintro e w' ⟨rfl, rfl⟩)
    | (go_at_call 16; refine (keyRange_v _ _ _ _ _ lo hi _ hl hh hz h0 (by omega) hf hr).mono ?_; rintro e w' ⟨rfl, rfl⟩))
  refine (copyKeys_pos kb ko n kc zs _ hz h0 (by omega) hkb hr).mono ?_
  rintro e w1 ⟨rfl, hr1, hs1, hb1⟩
  go_wp2_with fail
  refine (copyFields_pos fb fo m fc fs _ hfl (by omega) (by omega) (Nat.lt_of_lt_of_le hfb hb1.size) (hg.below hb1 hfb)).mono ?_
  rintro e w2 ⟨rfl, hr2, hs2, hb2⟩
  go_wp2_with fail
  refine (makeGivens_pos _ m m fs _ hfl (by omega) (by omega) hs2 hr2).mono ?_
  rintro e w3 ⟨rfl, hr3, hs3, hb3⟩
  go_wp2_with fail
  refine (zzn_dense_c _ _ n n m m c zs fs lo hi _ hcc hl hh hz hfl h0 hnm hn hlo hlh hhi hbig hf (Nat.lt_of_lt_of_le hs1 (Nat.le_trans hb2.size hb3.size)) hs3 ((hr1.below hb2 hs1).below hb3 (Nat.lt_of_lt_of_le hs1 hb2.size)) hr3).mono ?_
  rintro e w4 ⟨bd, rfl, hD4, hbd, hb4⟩
  have hK4 : RowI w4 w'.heap.size 0 zs := ((hr1.below hb2 hs1).below hb3 (Nat.lt_of_lt_of_le hs1 hb2.size)).below hb4 (Nat.lt_of_lt_of_le hs1 (Nat.le_trans hb2.size hb3.size))
  have hG4 : RowG w4 w2.heap.size 0 fs := hr3.below hb4 hs3
  have hsK : w'.heap.size < w4.heap.size := Nat.lt_of_lt_of_le hs1 (Nat.le_trans hb2.size (Nat.le_trans hb3.size hb4.size))
  have hsG : w2.heap.size < w4.heap.size := Nat.lt_of_lt_of_le hs3 hb4.size
  have hBel : Below w'.heap.size w' w4 := hb1.trans ((hb2.mono hb1.size).trans ((hb3.mono (Nat.le_trans hb1.size hb2.size)).trans (hb4.mono (Nat.le_trans hb1.size (Nat.le_trans hb2.size hb3.size)))))
  clear hr1 hr2 hr3 hb1 hb2 hb3 hb4 hs1 hs2 hs3 hr hg
  go_wp2_with fail
  clear e41 ecc ell hmk
  go_loopw [17] (fun i wr => ∃ k : Nat, k ≤ n ∧ i = .int .i64 k ∧ Hit w4 (ht zs lo c k) wr) (fun i _ => n - (intOf i).toNat)
  case atStart => exact ⟨0, by omega, rfl, hit_start w4 c⟩
  case round =>
    obtain ⟨k, hk, rfl, hhit⟩ := hrel
    by_cases hlt : k < n
    · have ck := (hK4.below hhit.old hsK).at0 k (by omega)
      have b1 : lo ≤ kAt zs k := by have := mnT_le zs (n - 1) k (by omega); rw [hl.out] at this; exact this
      have b2 : kAt zs k ≤ hi := by have := le_mxT zs (n - 1) k (by omega); rw [hh.out] at this; exact this
      have hfk := hf k
      obtain ⟨x, hx⟩ : ∃ x, x = kAt zs k := ⟨_, rfl⟩
      have HX : Hid (x = kAt zs k) := hx
      rw [← hx] at ck b1 b2 hfk
      clear hx
      have hjc : (x - lo).toNat < c := by omega
      have hcb := hhit.row (x - lo).toNat (by rw [ht_len]; exact hjc)
      have hcf := hhit.free (x - lo).toNat
      go_wp2
      obtain ⟨ws, hws, hhit2⟩ := hit_step hhit (j := (x - lo).toNat) (by rw [ht_len]; exact hjc)
      have HT : Hid (ht zs lo c (k + 1) = (ht zs lo c k).set (x - lo).toNat true) := by
        show ht zs lo c (k + 1) = _
        rw [ht, HX.out]; rfl
      rw [← HT.out] at hhit2
      rw [← hws]
      clear hws hcb hcf ck hhit HT
      have hrk := hK4.below hhit2.old hsK
      rcases hlast : lastB zs k with _ | _
      · have HL : Hid (lastB zs k = false) := hlast
        clear hlast
        go_quiet ((go_at_call 21; exact Calls.quiet_of (lastOf_any _ n n k zs _ hz hlt (by omega) (RowI.drewN hrk) false HL)))
        go_wp2
        go_roundw
        case rel => exact ⟨k + 1, by omega, by go_num, hhit2.drewN⟩
        case measure => simp [intOf]; omega
      · have HL : Hid (lastB zs k = true) := hlast
        have hdl := dn_last zs fs lo c n k hlt (by rw [← hz]; exact lastB_true.1 hlast) (fun j hj => by have := mnT_le zs (n - 1) j (by omega); rw [hl.out] at this; exact this) (by unfold pl; rw [← HX.out]; exact hjc)
        have hdl2 : gAt (dn zs fs lo c n) (x - lo).toNat = gAt fs k := by rw [HX.out]; exact hdl
        obtain ⟨p, a1, a2, a3, a4, hgk, s0, s1, s2, s3, s4⟩ := (hG4.below hhit2.old hsG).opened0 k (by omega)
        obtain ⟨t0, t1, t2, t3, t4⟩ := (hD4.below hhit2.old hbd).at0 (x - lo).toNat (by rw [dn_len]; exact hjc)
        rw [hdl2, hgk.out] at t0 t1 t2 t3 t4
        dsimp only at t0 t1 t2 t3 t4
        have hkm : (k : Int) < (m : Int) := by omega
        have hxc : x - lo < (c : Int) := by omega
        clear hlast hdl hdl2
        go_quiet ((go_at_call 21; exact Calls.quiet_of (lastOf_any _ n n k zs _ hz hlt (by omega) (RowI.drewN hrk) true HL)))
        go_wp2
        go_roundw
        case rel => exact ⟨k + 1, by omega, by go_num, hhit2.drewN⟩
        case measure => simp [intOf]; omega
    · obtain rfl : k = n := by omega
      go_wp2
      obtain ⟨wz, hwz, ⟨z0, z1, z2, z3, z4⟩, hBz⟩ := boxed wr gz
      obtain ⟨bz, hbz⟩ : ∃ bz, bz = wr.heap.size := ⟨_, rfl⟩
      have hbzl : bz < wz.heap.size := by rw [hwz, hbz]; simp
      have hH : RowB wz w4.heap.size (ht zs lo c k) := hhit.row.below hBz hhit.size
      have hbz4 : Below w4.heap.size w4 wz := hhit.old.trans (hBz.mono (Nat.le_of_lt hhit.size))
      have hDz : RowG wz bd 0 (dn zs fs lo c k) := hD4.below hbz4 hbd
      have hw4z : w4.heap.size < wz.heap.size := Nat.lt_of_lt_of_le hhit.size hBz.size
      have hbdz : bd < wz.heap.size := Nat.lt_of_lt_of_le hbd hbz4.size
      have hw' : w'.heap.size ≤ wz.heap.size := Nat.le_trans (Nat.le_of_lt hsK) (Nat.le_of_lt hw4z)
      have HZ : Hid (wz = wr.alloc (.cells #[.int .i32 0, .bool false, .bool false, .bool false, .bool false] 46)) := hwz
      rw [← HZ.out, ← hbz]
      rw [← hbz] at z0 z1 z2 z3 z4
      clear hwz HZ hBz hhit hbz
      go_loopw [20] (fun i wx => ∃ j : Nat, j ≤ c ∧ i = .int .i64 j ∧ Below wz.heap.size wz wx) (fun i _ => c - (intOf i).toNat)
      case atStart => exact ⟨0, by omega, rfl, Below.refl _ _⟩
      case round =>
        obtain ⟨j, hj, rfl, hbx⟩ := hrel
        by_cases hlt2 : j < c
        · have hjc : (j : Int) < (c : Int) := by omega
          have hHj := (hH.below hbx hw4z) j (by rw [ht_len]; exact hlt2)
          rcases hbj : bAt (ht zs lo c k) j with _ | _
          · have hzero : gAt (dn zs fs lo c k) j = gz := dn_miss zs fs lo c j k (ht_miss zs lo c j hlt2 k hbj)
            rw [hbj] at hHj
            obtain ⟨t0, t1, t2, t3, t4⟩ := (hDz.below hbx hbdz).at0 j (by rw [dn_len]; exact hlt2)
            rw [hzero] at t0 t1 t2 t3 t4
            have y0 := (hbx.cell (p := ⟨bz, 0, none⟩) hbzl).trans z0
            have y1 := (hbx.cell (p := ⟨bz, 0 + 1, none⟩) hbzl).trans z1
            have y2 := (hbx.cell (p := ⟨bz, 0 + 2, none⟩) hbzl).trans z2
            have y3 := (hbx.cell (p := ⟨bz, 0 + 3, none⟩) hbzl).trans z3
            have y4 := (hbx.cell (p := ⟨bz, 0 + 4, none⟩) hbzl).trans z4
            simp only [gz] at t0 t1 t2 t3 t4 y0 y1 y2 y3 y4
            clear hzero hbj
            go_wp2
            go_quiet (fail)
            go_wp2
            go_roundw
            case rel => exact ⟨j + 1, by omega, by go_num, below_drewN hbx⟩
            case measure => simp [intOf]; omega
          · rw [hbj] at hHj
            clear hbj
            go_wp2
            go_quiet (fail)
            go_wp2
            go_roundw
            case rel => exact ⟨j + 1, by omega, by go_num, below_drewN hbx⟩
            case measure => simp [intOf]; omega
        · go_wp2
          go_ret
          exact ⟨rfl, hBel.trans ((hbz4.mono (Nat.le_of_lt hsK)).trans (hbx.mono hw'))⟩
end Go.Proofs.Qxb6602750aMods.giv
