/- The proof of the given statement; the frame is the skeleton tool's, the walk is by hand. -/
import Derived.Test.Qxb6602750aModsRows
import Derived.WalkKit
import Derived.ProofKit
import Derived.OpenShut
import Derived.ShutString
import Derived.Test.Qxb6602750aModsHexBackWalks
namespace Go.Proofs.Qxb6602750aMods.fnHexDigitsReadsBackWhatIsWritten
open Go.ChangeShapes Go.WideShapes Go.ChangeAt Go.RowKit
open Go.ChangeMaps (open_string shut_string)
open Go.Proofs.Qxb6602750aMods.hex
set_option linter.unusedVariables false      -- a walk need not use every 'w<i>' (that an integer argument fits its kind)

theorem own : ownKnob Trym.prog.godebug = none := by kernel_rfl

/-! ### The walk -/
theorem wf_i {a : Int} (h : (Lit.int .i64 a).wf = true) : -9223372036854775808 ≤ a ∧ a ≤ 9223372036854775807 := by
  have := h
  simp [Lit.wf, IntKind.min, IntKind.max, IntKind.signed, IntKind.bits] at this
  omega
theorem wf_u {a : Int} (h : (Lit.int .u32 a).wf = true) : 0 ≤ a ∧ a < 4294967296 := by
  have := h
  simp [Lit.wf, IntKind.min, IntKind.max, IntKind.signed, IntKind.bits] at this
  omega
/-- 'v >> 4n' is nought: v has no more than n digits -/
theorem fits (v n : Int) (h0 : 0 ≤ v) (h1 : 1 ≤ n) (h : (v / 2 ^ (4 * n).toNat != 0) = false) : v.toNat < 16 ^ n.toNat := by
  obtain ⟨V, rfl⟩ := Int.eq_ofNat_of_zero_le h0
  obtain ⟨K, rfl⟩ := Int.eq_ofNat_of_zero_le (show 0 ≤ n by omega)
  have e : (2 : Int) ^ (4 * (K : Int)).toNat = ((16 ^ K : Nat) : Int) := by
    rw [show (4 * (K : Int)).toNat = 4 * K from by omega, Int.pow_mul]; simp
  rw [e] at h
  have h' : V / 16 ^ K = 0 := by
    have : (V : Int) / ((16 ^ K : Nat) : Int) = 0 := by simpa using h
    rw [← Int.natCast_ediv] at this
    omega
  have hp : 0 < 16 ^ K := Nat.pow_pos (by omega)
  simp only [Int.toNat_natCast]
  rcases Nat.lt_or_ge V (16 ^ K) with hlt | hge
  · exact hlt
  · have := Nat.div_pos hge hp; omega
set_option maxHeartbeats 800000 in
theorem walk (a0 : Int) (a1 : Int) (a2 : Bool) (a3 : ByteArray) (w0 : (Lit.int .u32 a0).wf = true) (w1 : (Lit.int .i64 a1).wf = true) (w3 : a3.size ≤ maxLen) (w : World) :
    Calls Trym.prog 4 #[.int .u32 a0, .int .i64 a1, .bool a2, .string a3] w fun e w' => e = .returned (.bool true) ∧ Grown w w' := by
  obtain ⟨hv0, hv1⟩ := wf_u w0
  obtain ⟨hb1, hb2⟩ := wf_i w1
  clear w0 w1
  by_cases hbig : 1048576 < a3.size
  · go_enter Trym.func4, Trym.ntmps4
    go_wp2_with (go_at_call 13; refine (bytes13_no _ _ _ _ _ hbig w3).mono ?_; rintro e w' ⟨rfl, rfl⟩)
    go_ret
    exact ⟨rfl, Grown.refl _⟩
  · clear w3
    by_cases hn1 : a1 < 1
    · go_enter Trym.func4, Trym.ntmps4
      go_wp2_with (go_at_call 13; refine (bytes13_ok _ _ _ _ _ (by omega)).mono ?_; rintro e w' ⟨rfl, rfl⟩)
      go_ret
      exact ⟨rfl, Grown.refl _⟩
    · by_cases hn8 : 8 < a1
      · go_enter Trym.func4, Trym.ntmps4
        go_wp2_with (go_at_call 13; refine (bytes13_ok _ _ _ _ _ (by omega)).mono ?_; rintro e w' ⟨rfl, rfl⟩)
        go_ret
        exact ⟨rfl, Grown.refl _⟩
      · by_cases hlt : a1 < 8
        · rcases hq : (a0 / 2 ^ (4 * a1).toNat != 0) with _ | _
          · exact walk_main a0 a1 a2 a3 hv0 hv1 (by omega) (by omega) (by omega) (fun _ => hq) (fits a0 a1 hv0 (by omega) hq) w
          · go_enter Trym.func4, Trym.ntmps4
            go_wp2_with (go_at_call 13; refine (bytes13_ok _ _ _ _ _ (by omega)).mono ?_; rintro e w' ⟨rfl, rfl⟩)
            go_ret
            exact ⟨rfl, Grown.refl _⟩
        · obtain rfl : a1 = 8 := by omega
          exact walk_main a0 8 a2 a3 hv0 hv1 (by omega) (by omega) (by omega) (fun h => absurd h (by omega)) (show a0.toNat < 16 ^ 8 by omega) w

/-! ### The row's step, as the frame has it -/
set_option maxRecDepth 100000 in
theorem lifted (os : Os) (started : os.Started) (H : Type) (enc : TypeId × Value → H) :
    ReturnsInHanded {} Trym.checked os 4 .any (Rows.fnHexDigitsReadsBackWhatIsWrittenSpec.pre6 enc Trym.prog Trym.f4 Rows.fnHexDigitsReadsBackWhatIsWrittenRow.domain false) (Rows.fnHexDigitsReadsBackWhatIsWrittenSpec.post enc Trym.prog Trym.f4 false true false false) := by
  refine returnsInHanded_of_change (C := Trym.checked) own started (by kernel_rfl) Trym.func4
    (ChangeSpec.witness6 (enc := enc) (C := Trym.checked) false ⟨#[], #[.int .u32 0, .int .i64 0, .bool false, .string ByteArray.empty], []⟩ 8 (by kernel_rfl) (by kernel_rfl) (by kernel_rfl) (by kernel_rfl)) ?_
  intro W base args ds gs before hval0 hW hcnd _
  have hval : ∀ (j : Nat) t v, Trym.f4.params[j]? = some t → args[j]? = some v → Value.okWide Trym.prog W .any base t v := hval0
  have hW' := hW
  obtain ⟨p, q, hA0, hV, rfl, hfz, hnd⟩ := hW
  have hA : DataW.TrodAll enc Trym.prog W 0 (fun _ => true) true Trym.f4.params.toList args.toList ds p := hA0
  rw [Trym.params4] at hA hval
  obtain ⟨v0, vs0, d0, ds0, p0, q0, hargs, rfl, rfl, h0, r0⟩ := trodAll_cons hA
  obtain ⟨v1, vs1, d1, ds1, p1, q1, rfl, rfl, rfl, h1, r1⟩ := trodAll_cons r0
  obtain ⟨v2, vs2, d2, ds2, p2, q2, rfl, rfl, rfl, h2, r2⟩ := trodAll_cons r1
  obtain ⟨v3, vs3, d3, ds3, p3, q3, rfl, rfl, rfl, h3, r3⟩ := trodAll_cons r2
  obtain ⟨rfl, rfl, rfl⟩ := trodAll_nil r3
  obtain rfl : args = #[v0, v1, v2, v3] := by cases args; simp_all
  obtain ⟨rfl, rfl⟩ := trodVars_none hV
  obtain ⟨a0, rfl, rfl, rfl, w0⟩ := open_int Trym.underlying25 (hval 0 25 v0 rfl rfl) h0
  obtain ⟨a1, rfl, rfl, rfl, w1⟩ := open_int Trym.underlying3 (hval 1 3 v1 rfl rfl) h1
  obtain ⟨a2, rfl, rfl, rfl⟩ := open_bool Trym.underlying4 (hval 2 4 v2 rfl rfl) h2
  obtain ⟨a3, rfl, rfl, rfl, w3⟩ := open_string Trym.underlying9 (hval 3 9 v3 rfl rfl) h3
  clear hA0 hval0
  simp only [List.append_nil] at hW'
  refine (walk a0 a1 a2 a3 w0 w1 w3 W).mono fun e W' ⟨he, hg⟩ => ?_
  subst he
  exact ⟨_, rfl, post_of_same (pa := []) (pv := []) hW' (fun _ _ _ => (trodAll_cons_mk (shut_bool Trym.underlying4 _) trodAll_mk0)) (fun sp _ => (trodAll_cons_mk (shut_int Trym.underlying25 w0) (trodAll_cons_mk (shut_int Trym.underlying3 w1) (trodAll_cons_mk (shut_bool Trym.underlying4 _) (trodAll_cons_mk (shut_string Trym.underlying9 w3) trodAll_mk0))))) (fun _ _ => rfl) rfl
    (hg.frame _) hg.2.1 (ok_one (by kernel_rfl) rfl (okWide_bool_mk Trym.underlying4 _))⟩

theorem over : Rows.fnHexDigitsReadsBackWhatIsWrittenRow.holds Trym.pinned (OpenSpec.ofChange Rows.fnHexDigitsReadsBackWhatIsWrittenSpec) :=
  OpenClaim.holds_of_wide 4 Trym.f4 rfl rfl rfl rfl rfl rfl rfl ⟨rfl, rfl, rfl, rfl, rfl⟩ rfl rfl rfl rfl rfl (by kernel_rfl) Trym.func4 (by kernel_rfl)
    (of_decide_eq_true (by kernel_rfl)) (by unfold Func.isWrapper; first | (rw [if_pos (by decide +kernel)]; kernel_rfl) | (rw [if_neg (by decide +kernel)]; exact ⟨rfl, rfl⟩))
    (fun os started H enc _ => lifted os started H enc)

theorem proved : Rows.FnHexDigitsReadsBackWhatIsWrittenSaid :=
  over
end Go.Proofs.Qxb6602750aMods.fnHexDigitsReadsBackWhatIsWritten
