import Derived.Test.Qxb6602750aModsGivMake
import Derived.Maps.OwnSet
/-! The walk of newFieldGivens, one theorem a way. -/
namespace Go.Proofs.Qxb6602750aMods.giv
open Go.ChangeShapes Go.WideShapes Go.ChangeAt Go.RowKit Go.Maps
set_option linter.unusedVariables false

def gElem : Value → Option (DataW Unit × List MemPlace)
  | .agg cs => match cs.toList with
    | [.int .i32 p, .bool a1, .bool a2, .bool a3, .bool a4] => some (gd (p, a1, a2, a3, a4), [])
    | _ => none
  | _ => none
theorem gElem_mk (p : Int) (a1 a2 a3 a4 : Bool) : gElem (.agg #[.int .i32 p, .bool a1, .bool a2, .bool a3, .bool a4]) = some (gd (p, a1, a2, a3, a4), []) := rfl
theorem gElem_inv {v : Value} {g : G} {ps : List MemPlace} (h : gElem v = some (gd g, ps)) : v = .agg #[.int .i32 g.1, .bool g.2.1, .bool g.2.2.1, .bool g.2.2.2.1, .bool g.2.2.2.2] := by
  unfold gElem at h
  split at h
  · rename_i cs
    split at h
    · rename_i p a1 a2 a3 a4 hc
      have e : gd (p, a1, a2, a3, a4) = gd g := by injection h with h; injection h
      have := gd_inj e
      subst this
      congr 1
      apply Array.ext'
      rw [hc]
    · cases h
  · cases h
theorem law : Keyed Trym.prog 21 := int_keyed Trym.underlying21
theorem hint (n : Nat) (w : World) : (Instr.makeMap 41 (some (.int .i64 (n : Int)))).run Trym.prog w = .ok (.map (some w.heap.size)) (w.alloc (.map #[] 0)) := by
  simp [Instr.makeMap, run_underlying Trym.underlying41, asInt, asIntOf]
theorem wfK {zs : List Int} (h : Fits zs) (i : Nat) : (Lit.int .i32 (kAt zs i)).wf = true := by
  have := h i
  simp [Lit.wf, IntKind.min, IntKind.max, IntKind.signed, IntKind.bits]; omega

set_option maxHeartbeats 400000 in
theorem nfg_zero (ka ga : Option Addr) (kc gl gc : Nat) (w : World) :
    Calls Trym.prog 32 #[.slice ka 0 kc, .slice ga gl gc] w fun e w' => e = .returned (.agg #[.int .i32 0, .slice none 0 0, .map none]) ∧ Below w.heap.size w w' := by
  go_enter Trym.func32, Trym.ntmps32
  go_wp2
  exact bodyPost_ret (v := .agg #[.int .i32 0, .slice none 0 0, .map none]) (by simp [results, Trym.results32, go_sem]) rfl ⟨rfl, (Below.refl _ _).alloc (Nat.le_refl _) _⟩
theorem min_v (b n c : Nat) (zs : List Int) (lo : Int) (w : World) (hl : Hid (mnT zs (n - 1) = lo)) (hz : zs.length = n) (h0 : 0 < n) (hn : n ≤ 1048576) (hf : Fits zs) (hr : RowI w b 0 zs) :
    Calls Trym.prog 35 #[.slice (some ⟨b, 0, none⟩) n c] w fun e w' => e = .returned (.int .i32 lo) ∧ w' = w := by
  have e := hl.out; subst e; exact min_any b 0 n c zs w hz h0 hn hf hr
theorem max_v (b n c : Nat) (zs : List Int) (hi : Int) (w : World) (hl : Hid (mxT zs (n - 1) = hi)) (hz : zs.length = n) (h0 : 0 < n) (hn : n ≤ 1048576) (hf : Fits zs) (hr : RowI w b 0 zs) :
    Calls Trym.prog 36 #[.slice (some ⟨b, 0, none⟩) n c] w fun e w' => e = .returned (.int .i32 hi) ∧ w' = w := by
  have e := hl.out; subst e; exact max_any b 0 n c zs w hz h0 hn hf hr

/-- the result's cell, behind all that was laid since -/
theorem res61 {w wr : World} (h : Below (w.heap.size + 1) (w.alloc (.cells #[.int .i32 0, .slice none 0 0, .map none] 61)) wr) :
    wr.cell? ⟨w.heap.size, 0, none⟩ = some (.int .i32 0) ∧ wr.cell? ⟨w.heap.size, 1, none⟩ = some (.slice none 0 0) ∧ wr.cell? ⟨w.heap.size, 2, none⟩ = some (.map none) ∧
    wr.frozen? ⟨w.heap.size, 0, none⟩ = false ∧ wr.frozen? ⟨w.heap.size, 1, none⟩ = false ∧ wr.frozen? ⟨w.heap.size, 2, none⟩ = false := by
  have lt : w.heap.size < w.heap.size + 1 := by omega
  have fr := free_new w #[.int .i32 0, .slice none 0 0, .map none] 61
  refine ⟨?_, ?_, ?_, (h.frozen (p := ⟨w.heap.size, 0, none⟩) lt).trans (fr 0), (h.frozen (p := ⟨w.heap.size, 1, none⟩) lt).trans (fr 1), (h.frozen (p := ⟨w.heap.size, 2, none⟩) lt).trans (fr 2)⟩
  · rw [h.cell (p := ⟨w.heap.size, 0, none⟩) lt, World.cell?_alloc_mark]; rfl
  · rw [h.cell (p := ⟨w.heap.size, 1, none⟩) lt, World.cell?_alloc_mark]; rfl
  · rw [h.cell (p := ⟨w.heap.size, 2, none⟩) lt, World.cell?_alloc_mark]; rfl
theorem fin61 {w wr : World} {D : DataW Unit} {n hi : Nat} (hown : wr.ownsMap Trym.prog 21 gElem (w.heap.size + 1) n D) (h : Below (w.heap.size + 1) (w.alloc (.cells #[.int .i32 0, .slice none 0 0, .map none] 61)) wr) (x y z : Value) :
    (((wr.setCell ⟨w.heap.size, 0, none⟩ x).setCell ⟨w.heap.size, 1, none⟩ y).setCell ⟨w.heap.size, 2, none⟩ z).ownsMap Trym.prog 21 gElem (w.heap.size + 1) n D ∧
    w.heap.size + 1 < (((wr.setCell ⟨w.heap.size, 0, none⟩ x).setCell ⟨w.heap.size, 1, none⟩ y).setCell ⟨w.heap.size, 2, none⟩ z).heap.size ∧
    Below w.heap.size w (((wr.setCell ⟨w.heap.size, 0, none⟩ x).setCell ⟨w.heap.size, 1, none⟩ y).setCell ⟨w.heap.size, 2, none⟩ z) := by
  have hb : Below w.heap.size w wr := ((Below.refl _ _).alloc (Nat.le_refl _) _).trans (h.mono (by omega))
  have o3 := ((hown.setCell (a := ⟨w.heap.size, 0, none⟩) (by show w.heap.size + 1 ≠ w.heap.size; omega) x).setCell (a := ⟨w.heap.size, 1, none⟩) (by show w.heap.size + 1 ≠ w.heap.size; omega) y).setCell (a := ⟨w.heap.size, 2, none⟩) (by show w.heap.size + 1 ≠ w.heap.size; omega) z
  exact ⟨o3, o3.lt, ((hb.setCell (Nat.le_refl _) _).setCell (Nat.le_refl _) _).setCell (Nat.le_refl _) _⟩
set_option maxHeartbeats 800000 in
theorem nfg_map (kb gb n kc m gc : Nat) (zs : List Int) (fs : List G) (lo hi : Int) (w : World) (hl : Hid (mnT zs (n - 1) = lo)) (hh : Hid (mxT zs (n - 1) = hi)) (hz : zs.length = n) (hfl : fs.length = m) (h0 : 0 < n) (hnm : n ≤ m) (hn : n ≤ 4096)
    (hlo : -2147483648 ≤ lo) (hlh : lo ≤ hi) (hhi : hi ≤ 2147483647) (hsp : hi - lo ≤ 2147483647) (hbig : 2 * (n : Int) ≤ hi - lo)
    (hf : Fits zs) (hkb : kb < w.heap.size) (hgb : gb < w.heap.size) (hr : RowI w kb 0 zs) (hg : RowG w gb 0 fs) :
    Calls Trym.prog 32 #[.slice (some ⟨kb, 0, none⟩) n kc, .slice (some ⟨gb, 0, none⟩) m gc] w fun e w' => ∃ bm, e = .returned (.agg #[.int .i32 0, .slice none 0 0, .map (some bm)]) ∧
      w'.ownsMap Trym.prog 21 gElem bm n (mp zs fs n) ∧ bm < w'.heap.size ∧ Below w.heap.size w w' := by
  have hB : ∀ o, Below w.heap.size w (w.alloc o) := fun o => (Below.refl _ _).alloc (Nat.le_refl _) _
  have hr0 := fun o => hr.below (hB o) hkb
  have hmm := hint
  go_enter Trym.func32, Trym.ntmps32
  go_wp2_with (first
    | (go_at_call 35; refine (min_v _ _ _ _ _ _ hl hz h0 (by omega) hf (hr0 _)).mono ?_; rintro e w' ⟨rfl, rfl⟩)
    | (go_at_call 36; refine (max_v _ _ _ _ _ _ hh hz h0 (by omega) hf (hr0 _)).mono ?_; rintro e w' ⟨rfl, rfl⟩))
  clear hmm hr0
  go_loopw [34] (fun i wr => ∃ k : Nat, k ≤ n ∧ i = .int .i64 k ∧ wr.ownsMap Trym.prog 21 gElem (w.heap.size + 1) k (mp zs fs k) ∧ Below (w.heap.size + 1) (w.alloc (.cells #[.int .i32 0, .slice none 0 0, .map none] 61)) wr) (fun i _ => n - (intOf i).toNat)
  case atStart =>
    refine ⟨0, by omega, rfl, ?_, (Below.refl _ _).alloc (by simp) _⟩
    have := World.ownsMap_made (w.alloc (.cells #[.int .i32 0, .slice none 0 0, .map none] 61)) Trym.prog 21 gElem
    simpa [mp] using this
  case round =>
    obtain ⟨k, hk, rfl, hown, hbel⟩ := hrel
    by_cases hlt : k < n
    · have hbw : Below w.heap.size w wr := (hB _).trans (hbel.mono (by omega))
      have ck := (hr.below hbw hkb).at0 k (by omega)
      obtain ⟨p, a1, a2, a3, a4, hgk, s0, s1, s2, s3, s4⟩ := (hg.below hbw hgb).opened0 k (by omega)
      have hkey : keyOf Trym.prog 21 (.int .i32 (kAt zs k)) = some (kl (kAt zs k)) := keyOf_int_mk Trym.underlying21 (wfK hf k)
      go_wp2_with (at_mapUpdate; refine wpList_mapUpdate_own _ rfl _ _ _ 41 rfl 21 46 law Trym.underlying41 gElem (w.heap.size + 1) k _ rfl hown (by unfold maxLen; omega) _ _ _ rfl rfl hkey _ [] (gElem_mk p a1 a2 a3 a4) ?_; intro w1 hown1 hgrow1)
      go_roundw
      case rel => 
        refine ⟨k + 1, by omega, by go_num, ?_, hbel.grown hgrow1 (by have := hbel.size; simpa using this) (fun j hj => by cases hj; exact Nat.le_refl _)⟩
        have e : mp zs fs (k + 1) = (mp zs fs k).put (kl (kAt zs k)) (gd (p, a1, a2, a3, a4)) := by rw [mp, hgk.out]
        rw [e]; exact hown1
      case measure => simp [intOf]; omega
    · obtain rfl : k = n := by omega
      have hlw := hown.lt
      obtain ⟨c0, c1, c2, f0, f1, f2⟩ := res61 hbel
      have hfin := fin61 (hi := w.heap.size + 1) hown hbel (.int .i32 0) (.slice none 0 0) (.map (some (w.heap.size + 1)))
      go_wp2
      exact bodyPost_ret (v := .agg #[.int .i32 0, .slice none 0 0, .map (some (w.heap.size + 1))]) (by simp [results, Trym.results32, go_sem, c0, c1, c2]) rfl ⟨_, rfl, hfin⟩

/-- the state of the dense way's loop: the row, the struct g, the result's cell -/
structure Den (w : World) (lo : Int) (c : Nat) (l : List G) (wr : World) : Prop where
  row : RowG wr (w.heap.size + 1) 0 l
  free : Free wr (w.heap.size + 1)
  gleast : wr.cell? ⟨w.heap.size + 1 + 1, 0, none⟩ = some (.int .i32 lo)
  gslice : wr.cell? ⟨w.heap.size + 1 + 1, 1, none⟩ = some (.slice (some ⟨w.heap.size + 1, 0, none⟩) c c)
  gmap : wr.cell? ⟨w.heap.size + 1 + 1, 2, none⟩ = some (.map none)
  size : w.heap.size + 1 + 1 < wr.heap.size
  old : Below (w.heap.size + 1) (w.alloc (.cells #[.int .i32 0, .slice none 0 0, .map none] 61)) wr
theorem Den.below {w : World} {lo : Int} {c : Nat} {l : List G} {wr : World} (h : Den w lo c l wr) : Below w.heap.size w wr :=
  ((Below.refl _ _).alloc (Nat.le_refl _) _).trans (h.old.mono (by omega))
theorem den_start (w : World) (lo : Int) (c : Nat) : Den w lo c (List.replicate c gz)
    (((w.alloc (.cells #[.int .i32 0, .slice none 0 0, .map none] 61)).alloc (.cells (madeCells #[.int .i32 0, .bool false, .bool false, .bool false, .bool false] (c * 5)) 46)).alloc
      (.cells #[.int .i32 lo, .slice (some ⟨w.heap.size + 1, 0, none⟩) c c, .map none] 61)) := by
  obtain ⟨w1, e1⟩ : ∃ w1, w1 = w.alloc (.cells #[.int .i32 0, .slice none 0 0, .map none] 61) := ⟨_, rfl⟩
  have z1 : w1.heap.size = w.heap.size + 1 := by rw [e1]; simp
  obtain ⟨w2, e2⟩ : ∃ w2, w2 = w1.alloc (.cells (madeCells #[.int .i32 0, .bool false, .bool false, .bool false, .bool false] (c * 5)) 46) := ⟨_, rfl⟩
  have z2 : w2.heap.size = w.heap.size + 1 + 1 := by rw [e2]; simp [z1]
  rw [← e1, ← e2]
  have hB : Below w2.heap.size w2 (w2.alloc (.cells #[.int .i32 lo, .slice (some ⟨w.heap.size + 1, 0, none⟩) c c, .map none] 61)) := (Below.refl _ _).alloc (Nat.le_refl _) _
  have hrow : RowG w2 (w.heap.size + 1) 0 (List.replicate c gz) := by rw [e2, ← z1]; exact madeG w1 46 c
  have hfree : Free w2 (w.heap.size + 1) := by rw [e2, ← z1]; exact free_new _ _ _
  refine ⟨hrow.below hB (by omega), hfree.below hB (by omega), ?_, ?_, ?_, by simp [z2], ?_⟩
  · rw [← z2, World.cell?_alloc_mark]; rfl
  · rw [← z2, World.cell?_alloc_mark]; rfl
  · rw [← z2, World.cell?_alloc_mark]; rfl
  · rw [← e1]
    refine Below.trans (b := w2) ?_ (hB.mono (by omega))
    rw [e2]; exact (Below.refl _ _).alloc (by omega) _

theorem RowG.drew {W : World} {b o : Nat} {fs : List G} (h : RowG W b o fs) : RowG W.drew b o fs := h
theorem Den.drew {w wr : World} {lo : Int} {c : Nat} {l : List G} (h : Den w lo c l wr) : Den w lo c l wr.drew :=
  ⟨h.row.drew, h.free.drew, h.gleast, h.gslice, h.gmap, h.size, h.old.drew⟩
theorem den_put {w wr : World} {lo : Int} {c j : Nat} {l : List G} (g : G) (h : Den w lo c l wr) (hj : j < l.length) : Den w lo c (l.set j g) (put5 wr (w.heap.size + 1) (j * 5) g) := by
  have far : ∀ o, (put5 wr (w.heap.size + 1) (j * 5) g).cell? ⟨w.heap.size + 1 + 1, o, none⟩ = wr.cell? ⟨w.heap.size + 1 + 1, o, none⟩ := fun o => put5_far (.inl (by omega))
  have sz := h.size
  exact ⟨h.row.set j hj g, h.free.put5, (far 0).trans h.gleast, (far 1).trans h.gslice, (far 2).trans h.gmap, by rw [put5_size]; exact sz, below_put5 h.old (Nat.le_refl _)⟩
theorem den_step {w wr : World} {lo : Int} {c j : Nat} {l : List G} {p : Int} {a1 a2 a3 a4 : Bool} (h : Den w lo c l wr) (hj : j < l.length) :
    Den w lo c (l.set j (p, a1, a2, a3, a4)) (((((wr.setCell ⟨w.heap.size + 1, j * 5, none⟩ (.int .i32 p)).setCell ⟨w.heap.size + 1, j * 5 + 1, none⟩ (.bool a1)).setCell ⟨w.heap.size + 1, j * 5 + 2, none⟩ (.bool a2)).setCell ⟨w.heap.size + 1, j * 5 + 3, none⟩ (.bool a3)).setCell ⟨w.heap.size + 1, j * 5 + 4, none⟩ (.bool a4)).drew := by
  have := (den_put (p, a1, a2, a3, a4) h hj).drew
  unfold put5 at this
  exact this
theorem den_end {w wr : World} {lo : Int} {c : Nat} {l : List G} (h : Den w lo c l wr) (x y z : Value) :
    RowG (((wr.setCell ⟨w.heap.size, 0, none⟩ x).setCell ⟨w.heap.size, 1, none⟩ y).setCell ⟨w.heap.size, 2, none⟩ z) (w.heap.size + 1) 0 l ∧
    w.heap.size + 1 < (((wr.setCell ⟨w.heap.size, 0, none⟩ x).setCell ⟨w.heap.size, 1, none⟩ y).setCell ⟨w.heap.size, 2, none⟩ z).heap.size ∧
    Below w.heap.size w (((wr.setCell ⟨w.heap.size, 0, none⟩ x).setCell ⟨w.heap.size, 1, none⟩ y).setCell ⟨w.heap.size, 2, none⟩ z) := by
  have ne : ∀ o q, (⟨w.heap.size, o, none⟩ : Addr) ≠ ⟨w.heap.size + 1, q, none⟩ := fun o q e => by
    have : w.heap.size = w.heap.size + 1 := by injection e
    omega
  have far : ∀ q, (((wr.setCell ⟨w.heap.size, 0, none⟩ x).setCell ⟨w.heap.size, 1, none⟩ y).setCell ⟨w.heap.size, 2, none⟩ z).cell? ⟨w.heap.size + 1, q, none⟩ = wr.cell? ⟨w.heap.size + 1, q, none⟩ := fun q => by
    rw [set_other (ne 2 q), set_other (ne 1 q), set_other (ne 0 q)]
  refine ⟨fun i hi => ?_, ?_, ((h.below.setCell (Nat.le_refl _) _).setCell (Nat.le_refl _) _).setCell (Nat.le_refl _) _⟩
  · obtain ⟨r0, r1, r2, r3, r4⟩ := h.row i hi
    exact ⟨(far _).trans r0, (far _).trans r1, (far _).trans r2, (far _).trans r3, (far _).trans r4⟩
  · have := h.size
    simp [World.setCell]
    omega

set_option maxHeartbeats 800000 in
theorem nfg_dense (kb gb n kc m gc : Nat) (zs : List Int) (fs : List G) (lo hi : Int) (w : World) (hl : Hid (mnT zs (n - 1) = lo)) (hh : Hid (mxT zs (n - 1) = hi)) (hz : zs.length = n) (hfl : fs.length = m) (h0 : 0 < n) (hnm : n ≤ m) (hn : n ≤ 4096)
    (hlo : -2147483648 ≤ lo) (hlh : lo ≤ hi) (hhi : hi ≤ 2147483647) (hbig : hi - lo < 2 * (n : Int))
    (hf : Fits zs) (hkb : kb < w.heap.size) (hgb : gb < w.heap.size) (hr : RowI w kb 0 zs) (hg : RowG w gb 0 fs) :
    Calls Trym.prog 32 #[.slice (some ⟨kb, 0, none⟩) n kc, .slice (some ⟨gb, 0, none⟩) m gc] w fun e w' => ∃ bd, e = .returned (.agg #[.int .i32 lo, .slice (some ⟨bd, 0, none⟩) (hi - lo + 1).toNat (hi - lo + 1).toNat, .map none]) ∧
      RowG w' bd 0 (dn zs fs lo (hi - lo + 1).toNat n) ∧ bd < w'.heap.size ∧ Below w.heap.size w w' := by
  have hB : ∀ o, Below w.heap.size w (w.alloc o) := fun o => (Below.refl _ _).alloc (Nat.le_refl _) _
  have hr0 := fun o => hr.below (hB o) hkb
  obtain ⟨i0, hi0, hz0, hz1, hz2⟩ := info_parts Trym.info46
  have hmk := fun W => run_make (P := Trym.prog) W 39 46 i0 (.agg #[.int .i32 0, .bool false, .bool false, .bool false, .bool false]) Trym.underlying39 hi0 hz0 .i32 .i32 (hi - lo + 1) (hi - lo + 1) (by omega) (by omega) (by rw [hz2]; omega) (by omega)
  rw [hz1] at hmk
  clear hi0 hz0 hz1 hz2
  go_enter Trym.func32, Trym.ntmps32
  go_wp2_with (first
    | (go_at_call 35; refine (min_v _ _ _ _ _ _ hl hz h0 (by omega) hf (hr0 _)).mono ?_; rintro e w' ⟨rfl, rfl⟩)
    | (go_at_call 36; refine (max_v _ _ _ _ _ _ hh hz h0 (by omega) hf (hr0 _)).mono ?_; rintro e w' ⟨rfl, rfl⟩))
  clear hmk hr0
  go_loopw [57] (fun i wr => ∃ k : Nat, k ≤ n ∧ i = .int .i64 k ∧ Den w lo (hi - lo + 1).toNat (dn zs fs lo (hi - lo + 1).toNat k) wr) (fun i _ => n - (intOf i).toNat)
  case atStart => exact ⟨0, by omega, rfl, den_start w lo (hi - lo + 1).toNat⟩
  case round =>
    obtain ⟨k, hk, rfl, hden⟩ := hrel
    by_cases hlt : k < n
    · have hbw := hden.below
      have ck := (hr.below hbw hkb).at0 k (by omega)
      obtain ⟨p, a1, a2, a3, a4, hgk, s0, s1, s2, s3, s4⟩ := (hg.below hbw hgb).opened0 k (by omega)
      have b1 : lo ≤ kAt zs k := by have := mnT_le zs (n - 1) k (by omega); rw [hl.out] at this; exact this
      have b2 : kAt zs k ≤ hi := by have := le_mxT zs (n - 1) k (by omega); rw [hh.out] at this; exact this
      obtain ⟨x, hx⟩ : ∃ x, x = kAt zs k := ⟨_, rfl⟩
      have HX : Hid (x = kAt zs k) := hx
      rw [← hx] at ck b1 b2
      clear hx
      obtain ⟨v0, v1, v2, v3, v4, d0, d1, d2, d3, d4⟩ := hden.row.cells0 (x - lo).toNat (by rw [dn_len]; omega)
      obtain ⟨f0, f1, f2, f3, f4⟩ := hden.free.five (x - lo).toNat
      have g1 := hden.gslice
      go_wp2
      go_region
      go_wp2
      go_roundw
      case rel =>
        have hd := den_step hden (j := (x - lo).toNat) (p := p) (a1 := a1) (a2 := a2) (a3 := a3) (a4 := a4) (by rw [dn_len]; omega)
        have e : dn zs fs lo (hi - lo + 1).toNat (k + 1) = (dn zs fs lo (hi - lo + 1).toNat k).set (x - lo).toNat (p, a1, a2, a3, a4) := by
          rw [dn, hgk.out, HX.out]; rfl
        exact ⟨k + 1, by omega, by go_num, by rw [e]; exact hd⟩
      case measure => simp [intOf]; omega
    · obtain rfl : k = n := by omega
      obtain ⟨c0, c1, c2, f0, f1, f2⟩ := res61 hden.old
      have g0 := hden.gleast
      have g1 := hden.gslice
      have g2 := hden.gmap
      have hfin := den_end hden (.int .i32 lo) (.slice (some ⟨w.heap.size + 1, 0, none⟩) (hi - lo + 1).toNat (hi - lo + 1).toNat) (.map none)
      go_wp2
      exact bodyPost_ret (v := .agg #[.int .i32 lo, .slice (some ⟨w.heap.size + 1, 0, none⟩) (hi - lo + 1).toNat (hi - lo + 1).toNat, .map none]) (by simp [results, Trym.results32, go_sem, c0, c1, c2]) rfl ⟨_, rfl, hfin⟩
end Go.Proofs.Qxb6602750aMods.giv
