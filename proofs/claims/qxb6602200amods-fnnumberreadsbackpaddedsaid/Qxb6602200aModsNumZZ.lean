import Derived.Test.Qxb6602200aModsNumWalks
import Derived.RegionTactic
import Derived.ChangeAlike
/-! The walk of ZZNumber, its two ways. -/
namespace Go.Proofs.Qxb6602200aMods.num
open Go.ChangeShapes Go.WideShapes Go.ChangeAt Go.RowKit
set_option linter.unusedVariables false
/-- the state's block, new -/
theorem laid (w : World) (s : ByteArray) (ok : Bool) :
    (w.alloc (.cells #[.string s, .bool ok] 43)).cell? ⟨w.heap.size, 0, none⟩ = some (.string s) ∧ (w.alloc (.cells #[.string s, .bool ok] 43)).cell? ⟨w.heap.size, 1, none⟩ = some (.bool ok) ∧
    (w.alloc (.cells #[.string s, .bool ok] 43)).frozen? ⟨w.heap.size, 0, none⟩ = false ∧ (w.alloc (.cells #[.string s, .bool ok] 43)).frozen? ⟨w.heap.size, 1, none⟩ = false ∧
    Below w.heap.size w (w.alloc (.cells #[.string s, .bool ok] 43)) ∧ w.heap.size < (w.alloc (.cells #[.string s, .bool ok] 43)).heap.size := by
  refine ⟨?_, ?_, ?_, ?_, (Below.refl _ _).alloc (Nat.le_refl _) _, by simp⟩
  · rw [World.cell?_alloc_mark]; rfl
  · rw [World.cell?_alloc_mark]; rfl
  · rw [World.frozen?_alloc_mark]; rfl
  · rw [World.frozen?_alloc_mark]; rfl
set_option maxHeartbeats 800000 in
theorem zz_ok (s : ByteArray) (n lo hi : Int) (w : World) (hs : s.size ≤ 2097152) (h0 : 0 ≤ n) (hn : n ≤ leadS s)
    (hlo : lo ≤ V s n.toNat) (hhi : V s n.toNat ≤ hi) :
    Calls Trym.prog 8 #[.string s, .bool true, .int .i64 n, .int .i64 lo, .int .i64 hi] w fun e w' =>
      e = .returned (.tuple #[.string (s.extract n.toNat s.size), .bool true, .int .i64 (V s n.toNat)]) ∧ Below w.heap.size w w' := by
  go_enter Trym.func8, Trym.ntmps8
  go_wp2_with fail
  refine (number_ok s n lo hi w.heap.size (w.alloc (.cells #[.string s, .bool true] 43)) w hs h0 hn hlo hhi (laid w s true).1 (laid w s true).2.1 (laid w s true).2.2.1 (laid w s true).2.2.2.1 (laid w s true).2.2.2.2.1 (Nat.le_refl _) (laid w s true).2.2.2.2.2).mono ?_
  rintro e w1 ⟨rfl, q0, q1, q2⟩
  go_wp2
  go_region
  all_goals (try go_wp2)
  all_goals go_ret3
  all_goals exact ⟨rfl, q2.drew⟩
set_option maxHeartbeats 800000 in
theorem zz_fail (s : ByteArray) (ok : Bool) (n lo hi : Int) (w : World) (hs : s.size ≤ 2097152)
    (hF : ok = false ∨ (ok = true ∧ 0 ≤ n ∧ ((s.size : Int) < n ∨ (n ≤ s.size ∧ (leadS s : Int) < n) ∨ (n ≤ leadS s ∧ V s n.toNat < lo) ∨ (n ≤ leadS s ∧ lo ≤ V s n.toNat ∧ hi < V s n.toNat)))) :
    Calls Trym.prog 8 #[.string s, .bool ok, .int .i64 n, .int .i64 lo, .int .i64 hi] w fun e w' =>
      e = .returned (.tuple #[.string s, .bool false, .int .i64 0]) ∧ Below w.heap.size w w' := by
  have HF : Hid (ok = false ∨ (ok = true ∧ 0 ≤ n ∧ ((s.size : Int) < n ∨ (n ≤ s.size ∧ (leadS s : Int) < n) ∨ (n ≤ leadS s ∧ V s n.toNat < lo) ∨ (n ≤ leadS s ∧ lo ≤ V s n.toNat ∧ hi < V s n.toNat)))) := hF
  clear hF
  go_enter Trym.func8, Trym.ntmps8
  go_wp2_with fail
  refine (number_fail s ok n lo hi w.heap.size (w.alloc (.cells #[.string s, .bool ok] 43)) w hs HF.out (laid w s ok).1 (laid w s ok).2.1 (laid w s ok).2.2.1 (laid w s ok).2.2.2.1 (laid w s ok).2.2.2.2.1 (Nat.le_refl _) (laid w s ok).2.2.2.2.2).mono ?_
  rintro e w1 ⟨rfl, q0, q1, q2⟩
  go_wp2
  go_region
  all_goals (try go_wp2)
  all_goals go_ret3
  all_goals exact ⟨rfl, q2.drew⟩
end Go.Proofs.Qxb6602200aMods.num
