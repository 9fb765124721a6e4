import Derived.Test.Qxb6602750aModsGivZZ
/-! The walk of FnNewFieldGivensAgainstLastWinsTable: the ways that end early. -/
namespace Go.Proofs.Qxb6602750aMods.giv
open Go.ChangeShapes Go.WideShapes Go.ChangeAt Go.RowKit Go.Maps
set_option linter.unusedVariables false
set_option maxRecDepth 100000 in
set_option maxHeartbeats 400000 in
theorem law_big (ka fa : Option Addr) (n kc m fc : Nat) (w : World) (h : 1048576 < n + m) (hn : n ≤ maxLen) (hm : m ≤ maxLen) :
    Calls Trym.prog 5 #[.slice ka n kc, .slice fa m fc] w fun e w' => e = .returned (.bool true) ∧ Below w.heap.size w w' := by
  go_enter Trym.func5, Trym.ntmps5
  go_wp2_with (go_at_call 15; refine (bytes15_no _ _ _ _ _ _ _ h hn hm).mono ?_; rintro e w' ⟨rfl, rfl⟩)
  go_ret
  exact ⟨rfl, Below.refl _ _⟩
set_option maxRecDepth 100000 in
set_option maxHeartbeats 400000 in
theorem law_keys (ka fa : Option Addr) (n kc m fc : Nat) (w : World) (h : n + m ≤ 1048576) (hk : 4096 < n) :
    Calls Trym.prog 5 #[.slice ka n kc, .slice fa m fc] w fun e w' => e = .returned (.bool true) ∧ Below w.heap.size w w' := by
  go_enter Trym.func5, Trym.ntmps5
  go_wp2_with (go_at_call 15; refine (bytes15_ok _ _ _ _ _ _ _ h).mono ?_; rintro e w' ⟨rfl, rfl⟩)
  go_ret
  exact ⟨rfl, Below.refl _ _⟩
set_option maxRecDepth 100000 in
set_option maxHeartbeats 400000 in
theorem law_fields (ka fa : Option Addr) (n kc m fc : Nat) (w : World) (h : n + m ≤ 1048576) (hk : n ≤ 4096) (hf : 65536 < m) :
    Calls Trym.prog 5 #[.slice ka n kc, .slice fa m fc] w fun e w' => e = .returned (.bool true) ∧ Below w.heap.size w w' := by
  go_enter Trym.func5, Trym.ntmps5
  go_wp2_with (go_at_call 15; refine (bytes15_ok _ _ _ _ _ _ _ h).mono ?_; rintro e w' ⟨rfl, rfl⟩)
  go_ret
  exact ⟨rfl, Below.refl _ _⟩
set_option maxRecDepth 100000 in
set_option maxHeartbeats 400000 in
theorem law_few (ka fa : Option Addr) (n kc m fc : Nat) (w : World) (h : n + m ≤ 1048576) (hk : n ≤ 4096) (hf : m ≤ 65536) (hmn : m < n) :
    Calls Trym.prog 5 #[.slice ka n kc, .slice fa m fc] w fun e w' => e = .returned (.bool true) ∧ Below w.heap.size w w' := by
  go_enter Trym.func5, Trym.ntmps5
  go_wp2_with (go_at_call 15; refine (bytes15_ok _ _ _ _ _ _ _ h).mono ?_; rintro e w' ⟨rfl, rfl⟩)
  go_ret
  exact ⟨rfl, Below.refl _ _⟩
theorem q39 : ∀ (w : World) (a : Option Addr) (n c n' c' : Nat), (binOp .eql 39 (.slice a n c) (.slice none n' c')).run Trym.prog w = .ok (.bool a.isNone) w := fun w a n c n' c' => Lib.run_eql_slice_nil w _ _ a n c n' c' Trym.underlying39
theorem q41 : ∀ (w : World) (r : Option Nat), (binOp .eql 41 (.map r) (.map none)).run Trym.prog w = .ok (.bool r.isNone) w := fun w r => run_eql_map_nil w _ _ _ r Trym.underlying41
theorem n41 : ∀ (w : World) (r : Option Nat), (binOp .neq 41 (.map r) (.map none)).run Trym.prog w = .ok (.bool (!r.isNone)) w := fun w r => run_neq_map_nil w _ _ _ r Trym.underlying41
theorem n39 : ∀ (w : World) (a : Option Addr) (n c n' c' : Nat), (binOp .neq 39 (.slice a n c) (.slice none n' c')).run Trym.prog w = .ok (.bool (!a.isNone)) w := fun w a n c n' c' => run_neq_slice_nil_any w _ _ a n c n' c' Trym.underlying39
set_option maxRecDepth 100000 in
set_option maxHeartbeats 400000 in
theorem law_none0 (ka fa : Option Addr) (kc fc : Nat) (w : World) :
    Calls Trym.prog 5 #[.slice ka 0 kc, .slice fa 0 fc] w fun e w' => e = .returned (.bool true) ∧ Below w.heap.size w w' := by
  have e39 := q39
  have e41 := q41
  go_enter Trym.func5, Trym.ntmps5
  go_wp2_with (go_at_call 15; refine (bytes15_ok _ _ _ _ _ _ _ (by omega)).mono ?_; rintro e w' ⟨rfl, rfl⟩)
  refine (copyKeys_zero _ _ _).mono ?_
  rintro e w1 ⟨ka', rfl, hb1⟩
  go_wp2_with fail
  refine (copyFields_zero _ _ _).mono ?_
  rintro e w2 ⟨fa', rfl, hb2⟩
  go_wp2_with fail
  refine (makeGivens_zero _ _ _).mono ?_
  rintro e w3 ⟨ga', rfl, hb3⟩
  go_wp2_with fail
  refine (zzn_zero _ _ _ _ _ _).mono ?_
  rintro e w4 ⟨rfl, hb4⟩
  go_wp2
  go_ret
  exact ⟨rfl, hb1.trans ((hb2.mono hb1.size).trans ((hb3.mono (Nat.le_trans hb1.size hb2.size)).trans (hb4.mono (Nat.le_trans hb1.size (Nat.le_trans hb2.size hb3.size)))))⟩
set_option maxRecDepth 100000 in
set_option maxHeartbeats 400000 in
theorem law_none (ka : Option Addr) (kc fb fo m fc : Nat) (fs : List G) (w : World) (hm : m ≤ 65536) (h0 : 0 < m) (hfl : fs.length = m) (hfb : fb < w.heap.size) (hr : RowG w fb fo fs) :
    Calls Trym.prog 5 #[.slice ka 0 kc, .slice (some ⟨fb, fo, none⟩) m fc] w fun e w' => e = .returned (.bool true) ∧ Below w.heap.size w w' := by
  have e39 := q39
  have e41 := q41
  go_enter Trym.func5, Trym.ntmps5
  go_wp2_with (go_at_call 15; refine (bytes15_ok _ _ _ _ _ _ _ (by omega)).mono ?_; rintro e w' ⟨rfl, rfl⟩)
  refine (copyKeys_zero _ _ _).mono ?_
  rintro e w1 ⟨ka', rfl, hb1⟩
  go_wp2_with fail
  refine (copyFields_pos fb fo m fc fs _ hfl h0 (by omega) (Nat.lt_of_lt_of_le hfb hb1.size) (hr.below hb1 hfb)).mono ?_
  rintro e w2 ⟨rfl, hr2, hs2, hb2⟩
  go_wp2_with fail
  refine (makeGivens_pos _ m m fs _ hfl h0 (by omega) hs2 hr2).mono ?_
  rintro e w3 ⟨rfl, hr3, hs3, hb3⟩
  go_wp2_with fail
  refine (zzn_zero _ _ _ _ _ _).mono ?_
  rintro e w4 ⟨rfl, hb4⟩
  go_wp2
  go_ret
  exact ⟨rfl, hb1.trans ((hb2.mono hb1.size).trans ((hb3.mono (Nat.le_trans hb1.size hb2.size)).trans (hb4.mono (Nat.le_trans hb1.size (Nat.le_trans hb2.size hb3.size)))))⟩
theorem keyRange_v (b o n c : Nat) (zs : List Int) (lo hi : Int) (w : World) (hl : Hid (mnT zs (n - 1) = lo)) (hh : Hid (mxT zs (n - 1) = hi)) (hz : zs.length = n) (h0 : 0 < n) (hn : n ≤ 1048576) (hf : Fits zs) (hr : RowI w b o zs) :
    Calls Trym.prog 16 #[.slice (some ⟨b, o, none⟩) n c] w fun e w' => e = .returned (.tuple #[.int .i64 lo, .int .i64 hi]) ∧ w' = w := by
  have e := hl.out; have e' := hh.out; subst e e'; exact keyRange_any b o n c zs w hz h0 hn hf hr
set_option maxRecDepth 100000 in
set_option maxHeartbeats 400000 in
theorem law_wide (kb ko n kc m fc : Nat) (fa : Option Addr) (zs : List Int) (lo hi : Int) (w : World) (hl : Hid (mnT zs (n - 1) = lo)) (hh : Hid (mxT zs (n - 1) = hi)) (hz : zs.length = n) (h0 : 0 < n) (hn : n ≤ 4096) (hm : m ≤ 65536) (hnm : n ≤ m)
    (hlo : -2147483648 ≤ lo) (hlh : lo ≤ hi) (hhi : hi ≤ 2147483647) (hsp : 2147483647 < hi - lo) (hf : Fits zs) (hr : RowI w kb ko zs) :
    Calls Trym.prog 5 #[.slice (some ⟨kb, ko, none⟩) n kc, .slice fa m fc] w fun e w' => e = .returned (.bool true) ∧ Below w.heap.size w w' := by
  go_enter Trym.func5, Trym.ntmps5
  go_wp2_with (first
    | (go_at_call 15; refine (bytes15_ok _ _ _ _ _ _ _ (by omega)).mono ?_; rintro e w' ⟨rfl, rfl⟩)
    | (go_at_call 16; refine (keyRange_v _ _ _ _ _ lo hi _ hl hh hz h0 (by omega) hf hr).mono ?_; rintro e w' ⟨rfl, rfl⟩))
  go_ret
  exact ⟨rfl, Below.refl _ _⟩
end Go.Proofs.Qxb6602750aMods.giv
