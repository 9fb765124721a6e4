/- The proof of the given statement; the frame is the skeleton tool's, the walk is by hand. -/
import Derived.Test.Qxb6602750aModsRows
import Derived.WalkKit
import Derived.ProofKit
import Derived.OpenShut
import Derived.ShutString
import Derived.Test.Qxb6602750aModsHexWalks
namespace Go.Proofs.Qxb6602750aMods.fnHexDigitsAgainstRightToLeftModel
open Go.ChangeShapes Go.WideShapes Go.ChangeAt Go.RowKit
open Go.ChangeMaps (open_string shut_string)
open Go.Proofs.Qxb6602750aMods.hex
set_option linter.unusedVariables false      -- a walk need not use every 'w<i>' (that an integer argument fits its kind)

theorem own : ownKnob Trym.prog.godebug = none := by kernel_rfl

/-! ### The walk -/
set_option maxHeartbeats 800000 in
theorem walk_full (s : ByteArray) (n : Int) (h0 : 0 < n) (hn : n ≤ leadS s) (hs : s.size ≤ 1048576) (w : World) :
    Calls Trym.prog 3 #[.string s, .int .i64 n] w fun e w' => e = .returned (.bool true) ∧ Grown w w' := by
  have hls := leadS_le s
  obtain ⟨h1, h2⟩ := hd_full s n (by omega) (by omega)
  have e2 : (hdK s n == n) = true := by rw [h2]; simp
  have E1 : Hid (hdV s n = wrap32 (RT s n.toNat (min n.toNat 8) : Int)) := by rw [h1, ← rt_last s n.toNat (by omega)]; trivial
  clear h1 h2
  go_enter Trym.func3, Trym.ntmps3
  go_wp2_with (first
    | (go_at_call 10; refine (bytes10_ok _ _ _ (by omega)).mono ?_; rintro e w' ⟨rfl, rfl⟩)
    | (go_at_call 11; refine (zzHex_any _ _ _ (by omega) (by omega)).mono ?_; rintro e w' ⟨rfl, rfl⟩))
  go_loop [7] (fun i => ∃ k : Nat, k ≤ leadS s ∧ i = .int .i64 k) (fun i => s.size - (intOf i).toNat)
  case atStart => exact ⟨0, Nat.zero_le _, rfl⟩
  case round =>
    obtain ⟨k, hk, rfl⟩ := hrel
    by_cases hlt : k < leadS s
    · have hx := leadS_hex s k hlt (by omega)
      go_wp2_with (go_at_call 12; refine (hexValue_any _ _ (by exact UInt8.toNat_lt _)).mono ?_; rintro e w' ⟨rfl, rfl⟩)
      go_round
      case rel => exact ⟨k + 1, by omega, by go_num⟩
      case measure => simp [intOf]; omega
    · obtain rfl : k = leadS s := by omega
      have hx : ∀ h : leadS s < s.size, isHex (s[leadS s]).toNat = false := leadS_stop s
      by_cases hsz : leadS s < s.size
      all_goals
        first | (have hx' := hx hsz) | skip
        clear hx
        go_wp2_with (go_at_call 12; refine (hexValue_any _ _ (by exact UInt8.toNat_lt _)).mono ?_; rintro e w' ⟨rfl, rfl⟩)
        go_loop [10, 11, 13] (fun u p j => ∃ m : Nat, (m : Int) ≤ n ∧ m ≤ 8 ∧ u = .int .u32 (RT s n.toNat m) ∧ p = .int .u32 (pw m) ∧ j = .int .i64 (n - 1 - m)) (fun _ _ j => (intOf j + 1).toNat)
        case atStart => exact ⟨0, by omega, by omega, by rw [RT_zero]; rfl, by rw [pw_zero], by go_num⟩
        case round =>
          obtain ⟨m, hm, hm8, rfl, rfl, rfl⟩ := hrel
          by_cases hgo : (m : Int) < n ∧ m < 8
          · obtain ⟨hmn, hm8'⟩ := hgo
            have hp := pw_bd m
            have HS : Hid ((RT s n.toNat m : Int) + hxV (s[n.toNat - 1 - m]).toNat * pw m = (RT s n.toNat (m + 1) : Int) ∧ (RT s n.toNat (m + 1) : Int) < 4294967296 ∧ 0 ≤ hxV (s[n.toNat - 1 - m]).toNat * pw m) :=
              rt_step s n.toNat m (by omega) (by omega) (by omega) (by omega)
            go_wp2_with (go_at_call 12; refine (hexValue_any _ _ (by exact UInt8.toNat_lt _)).mono ?_; rintro e w' ⟨rfl, rfl⟩)
            go_round
            case rel => exact ⟨m + 1, by omega, by omega, congrArg (Value.int .u32) (by have := HS.out; omega), by rw [pw_succ], congrArg (Value.int .i64) (by omega)⟩
            case measure => simp [intOf]; omega
          · have e1 : (hdV s n == wrap32 (RT s n.toNat m : Int)) = true := by
              rw [E1.out, show min n.toNat 8 = m from by omega]; simp
            go_wp2
            all_goals
              go_ret
              exact ⟨rfl, Grown.refl _⟩
theorem wf_n {a : Int} (h : (Lit.int .i64 a).wf = true) : -9223372036854775808 ≤ a ∧ a ≤ 9223372036854775807 := by
  have := h
  simp [Lit.wf, IntKind.min, IntKind.max, IntKind.signed, IntKind.bits] at this
  omega
set_option maxHeartbeats 800000 in
theorem walk (a0 : ByteArray) (a1 : Int) (w0 : a0.size ≤ maxLen) (w1 : (Lit.int .i64 a1).wf = true) (w : World) :
    Calls Trym.prog 3 #[.string a0, .int .i64 a1] w fun e w' => e = .returned (.bool true) ∧ Grown w w' := by
  obtain ⟨hb1, hb2⟩ := wf_n w1
  clear w1
  have hls := leadS_le a0
  by_cases hbig : 1048576 < a0.size
  · go_enter Trym.func3, Trym.ntmps3
    go_wp2_with (go_at_call 10; refine (bytes10_no _ _ _ hbig w0).mono ?_; rintro e w' ⟨rfl, rfl⟩)
    go_ret
    exact ⟨rfl, Grown.refl _⟩
  · clear w0
    by_cases hn : a1 ≤ 0
    · obtain ⟨h1, h2⟩ := hd_neg a0 a1 hn
      have e1 : (hdV a0 a1 == 0) = true := by rw [h1]; rfl
      have e2 : (hdK a0 a1 == a1) = true := by rw [h2]; simp
      clear h1 h2
      go_enter Trym.func3, Trym.ntmps3
      go_wp2_with (first
        | (go_at_call 10; refine (bytes10_ok _ _ _ (by omega)).mono ?_; rintro e w' ⟨rfl, rfl⟩)
        | (go_at_call 11; refine (zzHex_any _ _ _ (by omega) (by omega)).mono ?_; rintro e w' ⟨rfl, rfl⟩))
      go_ret
      exact ⟨rfl, Grown.refl _⟩
    · by_cases hsh : (leadS a0 : Int) < a1
      · obtain ⟨h1, h2⟩ := hd_short a0 a1 (by omega) hsh
        have e1 : (hdV a0 a1 == 0) = true := by rw [h1]; rfl
        have e2 : (hdK a0 a1 == (leadS a0 : Int)) = true := by rw [h2]; simp
        clear h1 h2
        go_enter Trym.func3, Trym.ntmps3
        go_wp2_with (first
          | (go_at_call 10; refine (bytes10_ok _ _ _ (by omega)).mono ?_; rintro e w' ⟨rfl, rfl⟩)
          | (go_at_call 11; refine (zzHex_any _ _ _ (by omega) (by omega)).mono ?_; rintro e w' ⟨rfl, rfl⟩))
        go_loop [7] (fun i => ∃ k : Nat, k ≤ leadS a0 ∧ i = .int .i64 k) (fun i => a0.size - (intOf i).toNat)
        case atStart => exact ⟨0, Nat.zero_le _, rfl⟩
        case round =>
          obtain ⟨k, hk, rfl⟩ := hrel
          by_cases hlt : k < leadS a0
          · have hx := leadS_hex a0 k hlt (by omega)
            go_wp2_with (go_at_call 12; refine (hexValue_any _ _ (by exact UInt8.toNat_lt _)).mono ?_; rintro e w' ⟨rfl, rfl⟩)
            go_round
            case rel => exact ⟨k + 1, by omega, by go_num⟩
            case measure => simp [intOf]; omega
          · obtain rfl : k = leadS a0 := by omega
            by_cases hsz : leadS a0 < a0.size
            · have hx := leadS_stop a0 hsz
              go_wp2_with (go_at_call 12; refine (hexValue_any _ _ (by exact UInt8.toNat_lt _)).mono ?_; rintro e w' ⟨rfl, rfl⟩)
              go_ret
              exact ⟨rfl, Grown.refl _⟩
            · go_wp2
              go_ret
              exact ⟨rfl, Grown.refl _⟩
      · exact walk_full a0 a1 (by omega) (by omega) (by omega) w

/-! ### The row's step, as the frame has it -/
set_option maxRecDepth 100000 in
theorem lifted (os : Os) (started : os.Started) (H : Type) (enc : TypeId × Value → H) :
    ReturnsInHanded {} Trym.checked os 3 .any (Rows.fnHexDigitsAgainstRightToLeftModelSpec.pre6 enc Trym.prog Trym.f3 Rows.fnHexDigitsAgainstRightToLeftModelRow.domain false) (Rows.fnHexDigitsAgainstRightToLeftModelSpec.post enc Trym.prog Trym.f3 false true false false) := by
  refine returnsInHanded_of_change (C := Trym.checked) own started (by kernel_rfl) Trym.func3
    (ChangeSpec.witness6 (enc := enc) (C := Trym.checked) false ⟨#[], #[.string ByteArray.empty, .int .i64 0], []⟩ 8 (by kernel_rfl) (by kernel_rfl) (by kernel_rfl) (by kernel_rfl)) ?_
  intro W base args ds gs before hval0 hW hcnd _
  have hval : ∀ (j : Nat) t v, Trym.f3.params[j]? = some t → args[j]? = some v → Value.okWide Trym.prog W .any base t v := hval0
  have hW' := hW
  obtain ⟨p, q, hA0, hV, rfl, hfz, hnd⟩ := hW
  have hA : DataW.TrodAll enc Trym.prog W 0 (fun _ => true) true Trym.f3.params.toList args.toList ds p := hA0
  rw [Trym.params3] at hA hval
  obtain ⟨v0, vs0, d0, ds0, p0, q0, hargs, rfl, rfl, h0, r0⟩ := trodAll_cons hA
  obtain ⟨v1, vs1, d1, ds1, p1, q1, rfl, rfl, rfl, h1, r1⟩ := trodAll_cons r0
  obtain ⟨rfl, rfl, rfl⟩ := trodAll_nil r1
  obtain rfl : args = #[v0, v1] := by cases args; simp_all
  obtain ⟨rfl, rfl⟩ := trodVars_none hV
  obtain ⟨a0, rfl, rfl, rfl, w0⟩ := open_string Trym.underlying9 (hval 0 9 v0 rfl rfl) h0
  obtain ⟨a1, rfl, rfl, rfl, w1⟩ := open_int Trym.underlying3 (hval 1 3 v1 rfl rfl) h1
  clear hA0 hval0
  simp only [List.append_nil] at hW'
  refine (walk a0 a1 w0 w1 W).mono fun e W' ⟨he, hg⟩ => ?_
  subst he
  exact ⟨_, rfl, post_of_same (pa := []) (pv := []) hW' (fun _ _ _ => (trodAll_cons_mk (shut_bool Trym.underlying4 _) trodAll_mk0)) (fun sp _ => (trodAll_cons_mk (shut_string Trym.underlying9 w0) (trodAll_cons_mk (shut_int Trym.underlying3 w1) trodAll_mk0))) (fun _ _ => rfl) rfl
    (hg.frame _) hg.2.1 (ok_one (by kernel_rfl) rfl (okWide_bool_mk Trym.underlying4 _))⟩

theorem over : Rows.fnHexDigitsAgainstRightToLeftModelRow.holds Trym.pinned (OpenSpec.ofChange Rows.fnHexDigitsAgainstRightToLeftModelSpec) :=
  OpenClaim.holds_of_wide 3 Trym.f3 rfl rfl rfl rfl rfl rfl rfl ⟨rfl, rfl, rfl, rfl, rfl⟩ rfl rfl rfl rfl rfl (by kernel_rfl) Trym.func3 (by kernel_rfl)
    (of_decide_eq_true (by kernel_rfl)) (by unfold Func.isWrapper; first | (rw [if_pos (by decide +kernel)]; kernel_rfl) | (rw [if_neg (by decide +kernel)]; exact ⟨rfl, rfl⟩))
    (fun os started H enc _ => lifted os started H enc)

theorem proved : Rows.FnHexDigitsAgainstRightToLeftModelSaid :=
  over
end Go.Proofs.Qxb6602750aMods.fnHexDigitsAgainstRightToLeftModel
