import Derived.Test.Qxb6602750aModsGivNew
/-! The walk of ZZNewFieldGivens, one theorem a way. -/
namespace Go.Proofs.Qxb6602750aMods.giv
open Go.ChangeShapes Go.WideShapes Go.ChangeAt Go.RowKit Go.Maps
set_option linter.unusedVariables false
set_option maxHeartbeats 400000 in
theorem zzn_zero (ka ga : Option Addr) (kc gl gc : Nat) (w : World) :
    Calls Trym.prog 20 #[.slice ka 0 kc, .slice ga gl gc] w fun e w' => e = .returned (.tuple #[.int .i32 0, .slice none 0 0, .map none]) ∧ Below w.heap.size w w' := by
  go_enter Trym.func20, Trym.ntmps20
  go_wp2_with (go_at_call 32; refine (nfg_zero _ _ _ _ _ _).mono ?_; rintro e w1 ⟨rfl, hb1⟩)
  go_region
  all_goals (try go_wp2)
  all_goals go_ret3
  all_goals exact ⟨rfl, (hb1.alloc hb1.size _).drew⟩
set_option maxHeartbeats 400000 in
theorem zzn_map (kb gb n kc m gc : Nat) (zs : List Int) (fs : List G) (lo hi : Int) (w : World) (hl : Hid (mnT zs (n - 1) = lo)) (hh : Hid (mxT zs (n - 1) = hi)) (hz : zs.length = n) (hfl : fs.length = m) (h0 : 0 < n) (hnm : n ≤ m) (hn : n ≤ 4096)
    (hlo : -2147483648 ≤ lo) (hlh : lo ≤ hi) (hhi : hi ≤ 2147483647) (hsp : hi - lo ≤ 2147483647) (hbig : 2 * (n : Int) ≤ hi - lo)
    (hf : Fits zs) (hkb : kb < w.heap.size) (hgb : gb < w.heap.size) (hr : RowI w kb 0 zs) (hg : RowG w gb 0 fs) :
    Calls Trym.prog 20 #[.slice (some ⟨kb, 0, none⟩) n kc, .slice (some ⟨gb, 0, none⟩) m gc] w fun e w' => ∃ bm, e = .returned (.tuple #[.int .i32 0, .slice none 0 0, .map (some bm)]) ∧
      w'.ownsMap Trym.prog 21 gElem bm n (mp zs fs n) ∧ bm < w'.heap.size ∧ Below w.heap.size w w' := by
  go_enter Trym.func20, Trym.ntmps20
  go_wp2_with (go_at_call 32; refine (nfg_map kb gb n kc m gc zs fs lo hi _ hl hh hz hfl h0 hnm hn hlo hlh hhi hsp hbig hf hkb hgb hr hg).mono ?_; rintro e w1 ⟨bm, rfl, hown, hbm, hb1⟩)
  go_region
  all_goals (try go_wp2)
  all_goals go_ret3
  all_goals exact ⟨bm, rfl, (hown.alloc _).drew, (hown.alloc _).lt, (hb1.alloc hb1.size _).drew⟩
set_option maxHeartbeats 400000 in
theorem zzn_dense (kb gb n kc m gc : Nat) (zs : List Int) (fs : List G) (lo hi : Int) (w : World) (hl : Hid (mnT zs (n - 1) = lo)) (hh : Hid (mxT zs (n - 1) = hi)) (hz : zs.length = n) (hfl : fs.length = m) (h0 : 0 < n) (hnm : n ≤ m) (hn : n ≤ 4096)
    (hlo : -2147483648 ≤ lo) (hlh : lo ≤ hi) (hhi : hi ≤ 2147483647) (hbig : hi - lo < 2 * (n : Int))
    (hf : Fits zs) (hkb : kb < w.heap.size) (hgb : gb < w.heap.size) (hr : RowI w kb 0 zs) (hg : RowG w gb 0 fs) :
    Calls Trym.prog 20 #[.slice (some ⟨kb, 0, none⟩) n kc, .slice (some ⟨gb, 0, none⟩) m gc] w fun e w' => ∃ bd, e = .returned (.tuple #[.int .i32 lo, .slice (some ⟨bd, 0, none⟩) (hi - lo + 1).toNat (hi - lo + 1).toNat, .map none]) ∧
      RowG w' bd 0 (dn zs fs lo (hi - lo + 1).toNat n) ∧ bd < w'.heap.size ∧ Below w.heap.size w w' := by
  go_enter Trym.func20, Trym.ntmps20
  go_wp2_with (go_at_call 32; refine (nfg_dense kb gb n kc m gc zs fs lo hi _ hl hh hz hfl h0 hnm hn hlo hlh hhi hbig hf hkb hgb hr hg).mono ?_; rintro e w1 ⟨bd, rfl, hrow, hbd, hb1⟩)
  go_region
  all_goals (try go_wp2)
  all_goals go_ret3
  all_goals exact ⟨bd, rfl, (hrow.below (B := w1.heap.size) ((Below.refl _ _).alloc (Nat.le_refl _) _) hbd).drew, by simp; omega, (hb1.alloc hb1.size _).drew⟩
end Go.Proofs.Qxb6602750aMods.giv
