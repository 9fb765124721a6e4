import Derived.Test.Qxb6602750aModsGivLaw1
/-! The walk of FnNewFieldGivensAgainstLastWinsTable: the way of the map. -/
namespace Go.Proofs.Qxb6602750aMods.giv
open Go.ChangeShapes Go.WideShapes Go.ChangeAt Go.RowKit Go.Maps
set_option linter.unusedVariables false
theorem zero46 (w : World) : (zeroValue 46).run Trym.prog w = .ok (.agg #[.int .i32 0, .bool false, .bool false, .bool false, .bool false]) w := by kernel_rfl
/-- 'v, ok := apart[key]', the key there, the value written out -/
theorem wpList_lookup_g (w : World) {ops : Array Oper} {rest : List Oper} {o : Oper} {a : Act} {Q : Exit → Act → World → Prop}
    (hg : o.guard = none) (m x : Operand) (hop : o.op = Op.lookup 41 m x true) (b n : Nat) (D : DataW Unit) (hm : a.eval m = .map (some b)) (hown : w.ownsMap Trym.prog 21 gElem b n D)
    (key : Value) (l : Lit) (hx : a.eval x = key) (hkey : keyOf Trym.prog 21 key = some l) (p : Int) (a1 a2 a3 a4 : Bool) (hat : D.atKey l (gd gz) = gd (p, a1, a2, a3, a4)) (hhas : Maps.has D l = true)
    (hK : wpList Trym.prog ops Q rest (a.put o.dst (.tuple #[.agg #[.int .i32 p, .bool a1, .bool a2, .bool a3, .bool a4], .bool true])) w) :
    wpList Trym.prog ops Q (o :: rest) a w :=
  wpList_lookup_own_ok w hg m x 41 hop 21 46 law Trym.underlying41 gElem (zero46 w) (gd gz) [] (gElem_mk 0 false false false false) b n D hm hown key l hx hkey (fun v ps hv => by
    rw [hat] at hv
    have e := gElem_inv hv
    subst e
    rw [hhas]
    exact hK)
theorem own_below {W W' : World} {b n B : Nat} {D : DataW Unit} (h : W.ownsMap Trym.prog 21 gElem b n D) (hb : Below B W W') (hl : b < B) : W'.ownsMap Trym.prog 21 gElem b n D := by
  obtain ⟨es, clock, he, r⟩ := h
  exact ⟨es, clock, (hb.block b hl).trans he, r⟩
theorem RowI.drewN {W : World} {b o m : Nat} {zs : List Int} (h : RowI W b o zs) : RowI (W.drewN m) b o zs := h
theorem World.ownsMap.drewN {W : World} {b n m : Nat} {D : DataW Unit} (h : W.ownsMap Trym.prog 21 gElem b n D) : (W.drewN m).ownsMap Trym.prog 21 gElem b n D := h
theorem below_drewN {B m : Nat} {W W' : World} (h : Below B W W') : Below B W (W'.drewN m) := ⟨h.os, h.tape, h.output, h.size, h.block⟩

/-- a given in a new block of its own -/
theorem boxed (w : World) (g : G) : ∃ wv, wv = w.alloc (.cells #[.int .i32 g.1, .bool g.2.1, .bool g.2.2.1, .bool g.2.2.2.1, .bool g.2.2.2.2] 46) ∧ IsG wv w.heap.size 0 g ∧ Below w.heap.size w wv := by
  refine ⟨_, rfl, ⟨?_, ?_, ?_, ?_, ?_⟩, (Below.refl _ _).alloc (Nat.le_refl _) _⟩
  all_goals (rw [World.cell?_alloc_mark]; rfl)
set_option maxRecDepth 100000 in
set_option maxHeartbeats 1600000 in
theorem law_map (kb ko n kc fb fo m fc : Nat) (zs : List Int) (fs : List G) (lo hi : Int) (w : World) (hl : Hid (mnT zs (n - 1) = lo)) (hh : Hid (mxT zs (n - 1) = hi)) (hz : zs.length = n) (hfl : fs.length = m) (h0 : 0 < n) (hn : n ≤ 4096) (hm : m ≤ 65536) (hnm : n ≤ m)
    (hlo : -2147483648 ≤ lo) (hlh : lo ≤ hi) (hhi : hi ≤ 2147483647) (hsp : hi - lo ≤ 2147483647) (hbig : 2 * (n : Int) ≤ hi - lo) (hf : Fits zs) (hkb : kb < w.heap.size) (hfb : fb < w.heap.size) (hr : RowI w kb ko zs) (hg : RowG w fb fo fs) :
    Calls Trym.prog 5 #[.slice (some ⟨kb, ko, none⟩) n kc, .slice (some ⟨fb, fo, none⟩) m fc] w fun e w' => e = .returned (.bool true) ∧ Below w.heap.size w w' := by
  have e39 := n39
  have e41 := q41
  have en0 : ((n : Int) == 0) = false := by simp; omega
  go_enter Trym.func5, Trym.ntmps5
  go_wp2_with (first
    | (go_at_call 15; refine (bytes15_ok _ _ _ _ _ _ _ (by omega)).mono ?_; rintro e w' ⟨rfl, rfl⟩)
    | (go_at_call 16; refine (keyRange_v _ _ _ _ _ lo hi _ hl hh hz h0 (by omega) hf hr).mono ?_; rintro e w' ⟨rfl, rfl⟩))
  refine (copyKeys_pos kb ko n kc zs _ hz h0 (by omega) hkb hr).mono ?_
  rintro e w1 ⟨rfl, hr1, hs1, hb1⟩
  go_wp2_with fail
  refine (copyFields_pos fb fo m fc fs _ hfl (by omega) (by omega) (Nat.lt_of_lt_of_le hfb hb1.size) (hg.below hb1 hfb)).mono ?_
  rintro e w2 ⟨rfl, hr2, hs2, hb2⟩
  go_wp2_with fail
  refine (makeGivens_pos _ m m fs _ hfl (by omega) (by omega) hs2 hr2).mono ?_
  rintro e w3 ⟨rfl, hr3, hs3, hb3⟩
  go_wp2_with fail
  refine (zzn_map _ _ n n m m zs fs lo hi _ hl hh hz hfl h0 hnm hn hlo hlh hhi hsp hbig hf (Nat.lt_of_lt_of_le hs1 (Nat.le_trans hb2.size hb3.size)) hs3 ((hr1.below hb2 hs1).below hb3 (Nat.lt_of_lt_of_le hs1 hb2.size)) hr3).mono ?_
  rintro e w4 ⟨bm, rfl, hown, hbm, hb4⟩
  have hK4 : RowI w4 w'.heap.size 0 zs := ((hr1.below hb2 hs1).below hb3 (Nat.lt_of_lt_of_le hs1 hb2.size)).below hb4 (Nat.lt_of_lt_of_le hs1 (Nat.le_trans hb2.size hb3.size))
  have hG4 : RowG w4 w2.heap.size 0 fs := hr3.below hb4 hs3
  have hsK : w'.heap.size < w4.heap.size := Nat.lt_of_lt_of_le hs1 (Nat.le_trans hb2.size (Nat.le_trans hb3.size hb4.size))
  have hsG : w2.heap.size < w4.heap.size := Nat.lt_of_lt_of_le hs3 hb4.size
  have hBel : Below w'.heap.size w' w4 := hb1.trans ((hb2.mono hb1.size).trans ((hb3.mono (Nat.le_trans hb1.size hb2.size)).trans (hb4.mono (Nat.le_trans hb1.size (Nat.le_trans hb2.size hb3.size)))))
  clear hr1 hr2 hr3 hb1 hb2 hb3 hb4 hs1 hs2 hs3 hr hg
  go_wp2_with fail
  clear e39 e41
  have hdz : dist zs ≤ 4096 := by have := dist_le zs; omega
  go_loopw [12, 13] (fun x i wr => ∃ k d : Nat, k ≤ n ∧ Hid (d + dist (zs.drop k) = dist zs) ∧ d ≤ k ∧ x = .int .i64 d ∧ i = .int .i64 k ∧ Below w4.heap.size w4 wr) (fun _ i _ => n - (intOf i).toNat)
  case atStart => exact ⟨0, 0, by omega, (by simp : 0 + dist (zs.drop 0) = dist zs), by omega, rfl, rfl, Below.refl _ _⟩
  case round =>
    obtain ⟨k, d, hk, hd, hdk, rfl, rfl, hbel⟩ := hrel
    by_cases hlt : k < n
    · have HD : Hid (dist (zs.drop k) = (if lastB zs k = true then 1 else 0) + dist (zs.drop (k + 1))) := dist_drop zs k (by omega)
      have hrk := hK4.below hbel hsK
      rcases hlast : lastB zs k with _ | _
      · have HL : Hid (lastB zs k = false) := hlast
        clear hlast
        go_wp2_with fail
        refine (lastOf_any _ n n k zs _ hz hlt (by omega) hrk false HL).mono ?_
        rintro e wl ⟨rfl, hq⟩
        have hbl : Below w4.heap.size w4 wl := by obtain ⟨q, rfl⟩ := hq; exact below_drewN hbel
        clear hq
        go_wp2
        go_roundw
        case rel =>
          refine ⟨k + 1, d, by omega, ?_, by omega, rfl, by go_num, hbl⟩
          have h1 := hd.out
          have h2 := HD.out
          rw [HL.out] at h2
          simp at h2
          show d + dist (zs.drop (k + 1)) = dist zs
          omega
        case measure => simp [intOf]; omega
      · have HL : Hid (lastB zs k = true) := hlast
        have hml := fun p a1 a2 a3 a4 (e : gAt fs k = (p, a1, a2, a3, a4)) => e ▸ mp_last zs fs (gd gz) n k hlt (by rw [← hz]; exact lastB_true.1 hlast)
        have hkey : keyOf Trym.prog 21 (.int .i32 (kAt zs k)) = some (kl (kAt zs k)) := keyOf_int_mk Trym.underlying21 (wfK hf k)
        clear hlast
        go_wp2_with fail
        refine (lastOf_any _ n n k zs _ hz hlt (by omega) hrk true HL).mono ?_
        rintro e wl ⟨rfl, hq⟩
        have hbl : Below w4.heap.size w4 wl := by obtain ⟨q, rfl⟩ := hq; exact below_drewN hbel
        clear hq hrk hbel
        have ck := (hK4.below hbl hsK).at0 k (by omega)
        obtain ⟨p, a1, a2, a3, a4, hgk, s0, s1, s2, s3, s4⟩ := (hG4.below hbl hsG).opened0 k (by omega)
        have HM : Hid (has (mp zs fs n) (kl (kAt zs k)) = true ∧ (mp zs fs n).atKey (kl (kAt zs k)) (gd gz) = gd (p, a1, a2, a3, a4)) := hml p a1 a2 a3 a4 hgk.out
        have hownk := own_below hown hbl hbm
        clear hml
        go_wp2_with (at_lookup; refine wpList_lookup_g _ rfl _ _ rfl bm n _ rfl hownk _ _ rfl hkey p a1 a2 a3 a4 HM.out.2 HM.out.1 ?_)
        obtain ⟨wv, hwv, ⟨x0, x1, x2, x3, x4⟩, hBv⟩ := boxed wl (p, a1, a2, a3, a4)
        rw [← hwv]
        have hbv : Below w4.heap.size w4 wv := hbl.trans (hBv.mono hbl.size)
        clear hwv hownk ck s0 s1 s2 s3 s4 hbl hBv
        obtain ⟨t0, t1, t2, t3, t4⟩ := (hG4.below hbv hsG).at0 k (by omega)
        rw [hgk.out] at t0 t1 t2 t3 t4
        dsimp only at t0 t1 t2 t3 t4 x0 x1 x2 x3 x4
        have hkm : (k : Int) < (m : Int) := by omega
        go_quiet (fail)
        go_wp2
        go_roundw
        case rel =>
          refine ⟨k + 1, d + 1, by omega, ?_, by omega, by go_num, by go_num, below_drewN hbv⟩
          have h1 := hd.out
          have h2 := HD.out
          rw [HL.out] at h2
          simp at h2
          show d + 1 + dist (zs.drop (k + 1)) = dist zs
          omega
        case measure => simp [intOf]; omega
    · obtain rfl : k = n := by omega
      have hownk := own_below hown hbel hbm
      have hsd : Maps.size (mp zs fs k) = d := by
        rw [mp_size zs fs k (by omega), List.take_of_length_le (by omega)]
        have h1 := hd.out
        rw [List.drop_of_length_le (by omega)] at h1
        simp [dist] at h1
        omega
      have ed : (((Maps.size (mp zs fs k) : Nat) : Int) == (d : Int)) = true := by rw [hsd]; simp
      clear hsd
      go_wp2_with (at_len; refine wpList_len_own _ rfl _ 41 rfl 21 46 Trym.underlying41 gElem bm _ _ rfl hownk ?_)
      go_ret
      exact ⟨rfl, hBel.trans (hbel.mono (Nat.le_of_lt hsK))⟩
end Go.Proofs.Qxb6602750aMods.giv
