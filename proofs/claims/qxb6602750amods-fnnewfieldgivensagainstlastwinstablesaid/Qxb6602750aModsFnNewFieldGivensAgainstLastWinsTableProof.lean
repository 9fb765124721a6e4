/- The proof of the given statement; the frame is the skeleton tool's for slices, turned by hand at the slice of structs; the walks are by hand. -/
import Derived.Test.Qxb6602750aModsRows
import Derived.WalkKit
import Derived.ProofKit
import Derived.OpenShut
import Derived.ShutString
import Derived.ChangeOld
import Derived.Below
import Derived.Deep.Slices
import Derived.Test.Qxb6602750aModsGivLaw3
namespace Go.Proofs.Qxb6602750aMods.fnNewFieldGivensAgainstLastWinsTable
open Go.ChangeShapes Go.WideShapes Go.ChangeAt Go.RowKit
open Go.Proofs.Qxb6602750aMods.giv
set_option linter.unusedVariables false

theorem own : ownKnob Trym.prog.godebug = none := by kernel_rfl
theorem laidOut : laidOutB Trym.prog = true := by kernel_rfl
theorem cells58 : Trym.prog.cellsOf 58 = 5 := by kernel_rfl
theorem cells21 : Trym.prog.cellsOf 21 = 1 := by kernel_rfl
theorem cells4 : Trym.prog.cellsOf 4 = 1 := by kernel_rfl

/-- a slice of integers that came in: nil; or a row of 'cap' cells, the numbers 'zs' -/
def IsRow (k : IntKind) (w : World) (a : Option Addr) (len cap : Nat) (zs : List Int) : Prop :=
  (a = none ∧ len = 0 ∧ cap = 0 ∧ zs = []) ∨
  ∃ x, a = some x ∧ len ≤ cap ∧ cap ≤ maxLen ∧ zs.length = cap ∧ (∀ i, i < zs.length → w.cell? (x.add i) = some (.int k (zs.getD i 0))) ∧ ∀ n ∈ zs, (Lit.int k n).wf = true
/-- a slice of givens that came in -/
def IsFields (w : World) (a : Option Addr) (len : Nat) : Prop :=
  len = 0 ∨ (len ≤ maxLen ∧ ∃ (b o : Nat) (fs : List G), a = some ⟨b, o, none⟩ ∧ b < w.heap.size ∧ fs.length = len ∧ RowG w b o fs)

theorem lt_of_cell {w : World} {a : Addr} {v : Value} (h : w.cell? a = some v) : a.block < w.heap.size := by
  unfold World.cell? at h
  split at h
  · rename_i hb
    exact (Array.getElem?_eq_some_iff.1 hb).1
  · cases h
theorem wf_bd {a : Int} (h : (Lit.int .i32 a).wf = true) : -2147483648 ≤ a ∧ a ≤ 2147483647 := by
  have := h
  simp [Lit.wf, IntKind.min, IntKind.max, IntKind.signed, IntKind.bits] at this
  omega

/-- the keys that came in, in this proof's words -/
theorem keys_of {w : World} {a : Option Addr} {len cap : Nat} {z : List Int} (h : IsRow .i32 w a len cap z) (h0 : 0 < len) :
    ∃ (b o : Nat) (zs : List Int), a = some ⟨b, o, none⟩ ∧ b < w.heap.size ∧ zs.length = len ∧ Fits zs ∧ RowI w b o zs := by
  rcases h with ⟨_, h, _⟩ | ⟨x, rfl, hl, hm, hz, hc, hw⟩
  · omega
  · obtain ⟨b, o, rfl, hc'⟩ := ints_at hc (by omega)
    refine ⟨b, o, z.take len, rfl, lt_of_cell (hc' 0 (by omega)), by rw [List.length_take]; omega, ?_, ?_⟩
    · intro i
      unfold kAt
      by_cases hi : i < (z.take len).length
      · rw [List.getD_eq_getElem?_getD, List.getElem?_eq_getElem hi]
        exact wf_bd (hw _ (List.mem_of_mem_take (List.getElem_mem hi)))
      · rw [List.getD_eq_getElem?_getD, List.getElem?_eq_none (by omega)]
        simp
    · intro i hi
      rw [List.length_take] at hi
      rw [hc' i (by omega)]
      unfold kAt
      rw [List.getD_eq_getElem?_getD, List.getD_eq_getElem?_getD, List.getElem?_take, if_pos (by omega)]

/-- one element that reads as a Given -/
theorem given_of {H : Type} {enc : TypeId × Value → H} {w : World} {base n : Nat} {spare : Nat → Bool} {held : Bool} {cs : List Value} {x : DataW H × List MemPlace} (h : DataW.trod enc Trym.prog w base spare held n 58 cs = some x) :
    ∃ g : G, cs = [.int .i32 g.1, .bool g.2.1, .bool g.2.2.1, .bool g.2.2.2.1, .bool g.2.2.2.2] := by
  obtain ⟨xs, m, _, _, hl, hlen, hf⟩ := DataW.trod_struct Trym.underlying58 h
  rw [cells58] at hl
  obtain ⟨c0, c1, c2, c3, c4, rfl⟩ : ∃ c0 c1 c2 c3 c4, cs = [c0, c1, c2, c3, c4] := by
    match cs, hl with
    | [c0, c1, c2, c3, c4], _ => exact ⟨c0, c1, c2, c3, c4, rfl⟩
  obtain ⟨y0, y1, y2, y3, y4, rfl⟩ : ∃ y0 y1 y2 y3 y4, xs = [y0, y1, y2, y3, y4] := by
    match xs, hlen with
    | [y0, y1, y2, y3, y4], _ => exact ⟨y0, y1, y2, y3, y4, rfl⟩
  have e0 : DataW.trod enc Trym.prog w base spare held m 21 [c0] = some y0 := by have := hf 0 _ rfl; simpa [cells21] using this
  have e1 : DataW.trod enc Trym.prog w base spare held m 4 [c1] = some y1 := by have := hf 1 _ rfl; simpa [cells4] using this
  have e2 : DataW.trod enc Trym.prog w base spare held m 4 [c2] = some y2 := by have := hf 2 _ rfl; simpa [cells4] using this
  have e3 : DataW.trod enc Trym.prog w base spare held m 4 [c3] = some y3 := by have := hf 3 _ rfl; simpa [cells4] using this
  have e4 : DataW.trod enc Trym.prog w base spare held m 4 [c4] = some y4 := by have := hf 4 _ rfl; simpa [cells4] using this
  obtain ⟨p, h0, _, _⟩ := DataW.trod_int Trym.underlying21 e0
  obtain ⟨a1, h1, _⟩ := DataW.trod_bool Trym.underlying4 e1
  obtain ⟨a2, h2, _⟩ := DataW.trod_bool Trym.underlying4 e2
  obtain ⟨a3, h3, _⟩ := DataW.trod_bool Trym.underlying4 e3
  obtain ⟨a4, h4, _⟩ := DataW.trod_bool Trym.underlying4 e4
  injection h0 with h0; injection h1 with h1; injection h2 with h2; injection h3 with h3; injection h4 with h4
  subst h0 h1 h2 h3 h4
  exact ⟨(p, a1, a2, a3, a4), rfl⟩
theorem fields_of {H : Type} {enc : TypeId × Value → H} {w : World} {fuel : Nat} {a : Option Addr} {len cap : Nat} {x : DataW H × List MemPlace} (h : DataW.trod enc Trym.prog w 0 (fun _ => true) true fuel 33 [.slice a len cap] = some x) : IsFields w a len := by
  rcases Deep.open_slice Trym.underlying33 h with ⟨hcs, _⟩ | ⟨ad, l, c, m, n, D, Pl, hcs, _, hl, hm, hmm, _, hx⟩
  · simp at hcs
    exact .inl hcs.2.1
  · simp at hcs
    obtain ⟨rfl, rfl, rfl⟩ := hcs
    simp at hmm
    subst hmm
    by_cases h0 : len = 0
    · exact .inl h0
    · right
      rw [cells58] at hx
      refine ⟨by omega, ?_⟩
      obtain ⟨F, hF⟩ := Deep.choose_lt (α := G) (n := m) (p := fun i g => ∃ cs', w.cells? 0 (ad.add (i * 5)) 5 = some cs' ∧ cs' = [.int .i32 g.1, .bool g.2.1, .bool g.2.2.1, .bool g.2.2.2.1, .bool g.2.2.2.2]) (fun i hi => by
        obtain ⟨cs', h1, h2⟩ := hx i hi
        obtain ⟨g, hg⟩ := given_of h2
        exact ⟨g, cs', h1, hg⟩)
      have hcell : ∀ i t, i < m → t < 5 → w.cell? ((ad.add (i * 5)).add t) = [Value.int .i32 (F i).1, .bool (F i).2.1, .bool (F i).2.2.1, .bool (F i).2.2.2.1, .bool (F i).2.2.2.2][t]? := by
        intro i t hi ht
        obtain ⟨cs', h1, h2⟩ := hF i hi
        have := (World.cells?_some h1).2.2 t ht
        rw [this, h2]
      obtain ⟨b, o, spot⟩ := ad
      have hspot : spot = none := by
        have := hcell 0 0 (by omega) (by omega)
        simpa [Addr.add] using World.cell?_spot this
      subst hspot
      have hb : b < w.heap.size := by
        have := hcell 0 0 (by omega) (by omega)
        simpa [Addr.add] using lt_of_cell this
      refine ⟨b, o, (List.range len).map F, rfl, hb, by simp, ?_⟩
      intro i hi
      simp at hi
      have hg : gAt ((List.range len).map F) i = F i := by unfold gAt; simp [hi]
      rw [hg]
      have key : ∀ t, t < 5 → w.cell? ⟨b, o + i * 5 + t, none⟩ = [Value.int .i32 (F i).1, .bool (F i).2.1, .bool (F i).2.2.1, .bool (F i).2.2.2.1, .bool (F i).2.2.2.2][t]? := by
        intro t ht
        have := hcell i t (by omega) ht
        rw [add_plain, add_plain] at this
        exact this
      exact ⟨key 0 (by omega), key 1 (by omega), key 2 (by omega), key 3 (by omega), key 4 (by omega)⟩

/-! ### The walk -/
theorem walk (a0 : Option Addr) (len0 cap0 : Nat) (z0 : List Int) (a1 : Option Addr) (len1 cap1 : Nat) (w : World) (w0 : IsRow .i32 w a0 len0 cap0 z0) (w1 : IsFields w a1 len1) :
    Calls Trym.prog 5 #[.slice a0 len0 cap0, .slice a1 len1 cap1] w fun e w' => e = .returned (.bool true) ∧ Below w.heap.size w w' := by
  have hm0 : len0 ≤ maxLen := by
    rcases w0 with ⟨_, h, _⟩ | ⟨_, _, h1, h2, _⟩
    · rw [h]; exact Nat.zero_le _
    · omega
  have hm1 : len1 ≤ maxLen := by
    rcases w1 with h | ⟨h, _⟩
    · rw [h]; exact Nat.zero_le _
    · exact h
  by_cases hbig : 1048576 < len0 + len1
  · exact law_big a0 a1 len0 cap0 len1 cap1 w hbig hm0 hm1
  · by_cases hk : 4096 < len0
    · exact law_keys a0 a1 len0 cap0 len1 cap1 w (by omega) hk
    · by_cases hf : 65536 < len1
      · exact law_fields a0 a1 len0 cap0 len1 cap1 w (by omega) (by omega) hf
      · by_cases hmn : len1 < len0
        · exact law_few a0 a1 len0 cap0 len1 cap1 w (by omega) (by omega) (by omega) hmn
        · by_cases h0 : len0 = 0
          · subst h0
            rcases w1 with h | ⟨_, b, o, fs, rfl, hb, hfl, hr⟩
            · subst h
              exact law_none0 a0 a1 cap0 cap1 w
            · by_cases h1 : len1 = 0
              · subst h1
                exact law_none0 a0 _ cap0 cap1 w
              · exact law_none a0 cap0 b o len1 cap1 fs w (by omega) (by omega) hfl hb hr
          · obtain ⟨kb, ko, zs, rfl, hkb, hz, hfit, hrI⟩ := keys_of w0 (by omega)
            rcases w1 with h | ⟨_, fb, fo, fs, rfl, hfb, hfl, hrG⟩
            · omega
            · have hlo := mnT_bd hfit (len0 - 1)
              have hhi := mxT_bd hfit (len0 - 1)
              have hlh := mn_le_mx zs (len0 - 1)
              by_cases hsp : 2147483647 < mxT zs (len0 - 1) - mnT zs (len0 - 1)
              · exact law_wide kb ko len0 cap0 len1 cap1 _ zs _ _ w rfl rfl hz (by omega) (by omega) (by omega) (by omega) hlo.1 hlh hhi.2 hsp hfit hrI
              · by_cases hbm : 2 * (len0 : Int) ≤ mxT zs (len0 - 1) - mnT zs (len0 - 1)
                · exact law_map kb ko len0 cap0 fb fo len1 cap1 zs fs _ _ w rfl rfl hz hfl (by omega) (by omega) (by omega) (by omega) hlo.1 hlh hhi.2 (by omega) hbm hfit hkb hfb hrI hrG
                · exact law_dense kb ko len0 cap0 fb fo len1 cap1 _ zs fs _ _ w rfl (by omega) (by omega) rfl rfl hz hfl (by omega) (by omega) (by omega) (by omega) hlo.1 hlh hhi.2 (by omega) hfit hkb hfb hrI hrG

/-! ### The row's step -/
set_option maxRecDepth 100000 in
theorem lifted (os : Os) (started : os.Started) (H : Type) (enc : TypeId × Value → H) :
    ReturnsInHanded {} Trym.checked os 5 .any (Rows.fnNewFieldGivensAgainstLastWinsTableSpec.pre6 enc Trym.prog Trym.f5 Rows.fnNewFieldGivensAgainstLastWinsTableRow.domain false) (Rows.fnNewFieldGivensAgainstLastWinsTableSpec.post enc Trym.prog Trym.f5 false true false false) := by
  refine returnsInHanded_of_change (C := Trym.checked) own started (by kernel_rfl) Trym.func5
    (ChangeSpec.witness6 (enc := enc) (C := Trym.checked) false ⟨#[], #[.slice none 0 0, .slice none 0 0], []⟩ 8 (by kernel_rfl) (by kernel_rfl) (by kernel_rfl) (by kernel_rfl)) ?_
  intro W base args ds gs before hval0 hW hcnd _
  have hval : ∀ (j : Nat) t v, Trym.f5.params[j]? = some t → args[j]? = some v → Value.okWide Trym.prog W .any base t v := hval0
  have hW' := hW
  obtain ⟨p, q, hA0, hV, rfl, hfz, hnd⟩ := hW
  have hA : DataW.TrodAll enc Trym.prog W 0 (fun _ => true) true Trym.f5.params.toList args.toList ds p := hA0
  rw [Trym.params5] at hA hval
  obtain ⟨v0, vs0, d0, ds0, p0, q0, hargs, rfl, rfl, h0, r0⟩ := trodAll_cons hA
  obtain ⟨v1, vs1, d1, ds1, p1, q1, rfl, rfl, rfl, h1, r1⟩ := trodAll_cons r0
  obtain ⟨rfl, rfl, rfl⟩ := trodAll_nil r1
  obtain rfl : args = #[v0, v1] := by cases args; simp_all
  obtain ⟨rfl, rfl⟩ := trodVars_none hV
  obtain ⟨a0, len0, cap0, rfl⟩ := okWide_slice Trym.underlying32 (hval 0 32 v0 rfl rfl)
  have k0 := h0
  have lt0 : ∀ x ∈ p0, x.block < W.heap.size := by obtain ⟨m, hm⟩ := k0; exact DataW.trod_lt m _ _ _ hm
  obtain ⟨z0, w0⟩ : ∃ zs, IsRow .i32 W a0 len0 cap0 zs := by
    obtain ⟨fuel, hf⟩ := h0
    rcases open_ints Trym.underlying32 Trym.underlying21 (by kernel_rfl) hf with ⟨hcs, _⟩ | ⟨x, l, c, zs, hcs, _, hl, hm, hz, _, hcell, hwz⟩
    · simp [Value.cells] at hcs
      obtain ⟨rfl, rfl, rfl⟩ := hcs
      exact ⟨[], .inl ⟨rfl, rfl, rfl, rfl⟩⟩
    · simp [Value.cells] at hcs
      obtain ⟨rfl, rfl, rfl⟩ := hcs
      exact ⟨zs, .inr ⟨_, rfl, hl, hm, by simpa using hz, hcell, hwz⟩⟩
  obtain ⟨a1, len1, cap1, rfl⟩ := okWide_slice Trym.underlying33 (hval 1 33 v1 rfl rfl)
  have k1 := h1
  have lt1 : ∀ x ∈ p1, x.block < W.heap.size := by obtain ⟨m, hm⟩ := k1; exact DataW.trod_lt m _ _ _ hm
  have w1 : IsFields W a1 len1 := by
    obtain ⟨fuel, hf⟩ := h1
    exact fields_of (by simpa [Value.cells] using hf)
  clear hA0 hval0
  refine (walk a0 len0 cap0 z0 a1 len1 cap1 W w0 w1).mono fun e W' ⟨he, bel⟩ => ?_
  subst he
  exact ⟨_, rfl, _, _, _, [], _, [], hW', trodAll_mk1 (shut_bool Trym.underlying4 _), (trodAll_cons_mk (Below.trod laidOut (by kernel_rfl) (of_decide_eq_true (by kernel_rfl)) k0 bel lt0) (trodAll_cons_mk (Below.trod laidOut (by kernel_rfl) (of_decide_eq_true (by kernel_rfl)) k1 bel lt1) trodAll_mk0)), rfl, bel.frame _, fun h => by cases h⟩

theorem over : Rows.fnNewFieldGivensAgainstLastWinsTableRow.holds Trym.pinned (OpenSpec.ofChange Rows.fnNewFieldGivensAgainstLastWinsTableSpec) :=
  OpenClaim.holds_of_wide 5 Trym.f5 rfl rfl rfl rfl rfl rfl rfl ⟨rfl, rfl, rfl, rfl, rfl⟩ rfl rfl rfl rfl rfl (by kernel_rfl) Trym.func5 (by kernel_rfl)
    (of_decide_eq_true (by kernel_rfl)) (by unfold Func.isWrapper; first | (rw [if_pos (by decide +kernel)]; kernel_rfl) | (rw [if_neg (by decide +kernel)]; exact ⟨rfl, rfl⟩))
    (fun os started H enc _ => lifted os started H enc)

theorem proved : Rows.FnNewFieldGivensAgainstLastWinsTableSaid := over
end Go.Proofs.Qxb6602750aMods.fnNewFieldGivensAgainstLastWinsTable
