/- spec.SameCalled at three Tolds alike. No statement of the seat is proved here. -/
import Derived.Test.YtejckkeahmpcmaaGreatDoorSent
namespace Go.Proofs.YtejckkeahmpcmaaGreatDoor
open Go.RowKit
set_option linter.unusedVariables false
set_option maxHeartbeats 2000000

theorem same0 (w : World) : Calls Tryz.prog 10 #[.slice none 0 0, .slice none 0 0] w fun e w' => e = .returned (.bool true) ∧ w = w' := by
  go_enter Tryz.func10, Tryz.ntmps10
  go_wp2_with fail
  refine wp_loop_rounds 1 ?_
  rw [rounds_succ]
  go_wp2_with fail
  go_ret
  exact ⟨rfl, rfl⟩

theorem enh_eq (w : World) : (Op.equalIn 10000 34 (.agg #[.int .i64 0, .int .i64 0, .int .i64 0]) (.agg #[.int .i64 0, .int .i64 0, .int .i64 0])).run Tryz.prog w = .ok true w := by kernel_rfl

/-- The cells of three Tolds. -/
abbrev told3 : List Value := (toldc [] ++ toldc [] ++ toldc [120]).toList

set_option maxHeartbeats 8000000 in
set_option maxRecDepth 100000 in
theorem same3 (w : World) (a b cap cap' : Nat) (ha : ∀ i, i < 27 → w.cell? ⟨a, i, none⟩ = told3[i]?) (hb : ∀ i, i < 27 → w.cell? ⟨b, i, none⟩ = told3[i]?) (la : a < w.heap.size) (lb : b < w.heap.size) :
    Calls Tryz.prog 10 #[.slice (some ⟨a, 0, none⟩) 3 cap, .slice (some ⟨b, 0, none⟩) 3 cap'] w fun e w' => e = .returned (.bool true) ∧ Only (fun _ => False) w w' := by
  have hq := enh_eq
  have HA := Lib.hid ha; clear ha
  have HB := Lib.hid hb; clear hb
  go_enter Tryz.func10, Tryz.ntmps10
  go_wp2_with fail
  go_loopw [15] (fun i wr => ∃ k : Nat, k ≤ 3 ∧ i = .int .i64 k ∧ Only (fun _ => False) w wr) (fun i wr => 3 - (intOf i).toNat)
  case atStart => exact ⟨0, by omega, rfl, Only.refl _ _⟩
  case round =>
    obtain ⟨k, hk, rfl, ho⟩ := hrel
    have ca : ∀ i, i < 27 → wr.cell? ⟨a, i, none⟩ = told3[i]? := fun i hi => by rw [ho.cell (p := ⟨a, i, none⟩) la (fun f => f)]; exact HA.out i hi
    have cb : ∀ i, i < 27 → wr.cell? ⟨b, i, none⟩ = told3[i]? := fun i hi => by rw [ho.cell (p := ⟨b, i, none⟩) lb (fun f => f)]; exact HB.out i hi
    have sz := ho.size
    have la1 : a < wr.heap.size := by omega
    have la2 : a < wr.heap.size + 1 := by omega
    have lb1 : b < wr.heap.size := by omega
    have lb2 : b < wr.heap.size + 1 := by omega
    have na1 : ¬ a = wr.heap.size := by omega
    have na2 : ¬ a = wr.heap.size + 1 := by omega
    have nb1 : ¬ b = wr.heap.size := by omega
    have nb2 : ¬ b = wr.heap.size + 1 := by omega
    have HO := Lib.hid ho; clear ho
    rcases (by omega : k = 0 ∨ k = 1 ∨ k = 2 ∨ k = 3) with rfl | rfl | rfl | rfl
    · have a0 := ca 0 (by decide)
      have a1 := ca 1 (by decide)
      have a2 := ca 2 (by decide)
      have a3 := ca 3 (by decide)
      have a4 := ca 4 (by decide)
      have a5 := ca 5 (by decide)
      have a6 := ca 6 (by decide)
      have a7 := ca 7 (by decide)
      have a8 := ca 8 (by decide)
      have b0 := cb 0 (by decide)
      have b1 := cb 1 (by decide)
      have b2 := cb 2 (by decide)
      have b3 := cb 3 (by decide)
      have b4 := cb 4 (by decide)
      have b5 := cb 5 (by decide)
      have b6 := cb 6 (by decide)
      have b7 := cb 7 (by decide)
      have b8 := cb 8 (by decide)
      clear ca cb
      simp only [told3] at a0 a1 a2 a3 a4 a5 a6 a7 a8 b0 b1 b2 b3 b4 b5 b6 b7 b8
      go_wp2_with fail
      go_region
      all_goals
        clear a0 a1 a2 a3 a4 a5 a6 a7 a8 b0 b1 b2 b3 b4 b5 b6 b7 b8
        go_wp2_with (go_at_call 10; refine (same0 _).mono ?_; rintro e w' ⟨rfl, rfl⟩)
        go_roundw
        case rel => exact ⟨1, by omega, by go_num, ((HO.out.alloc _).alloc _).drew⟩
        case measure => simp [intOf]
    · have a0 := ca 9 (by decide)
      have a1 := ca 10 (by decide)
      have a2 := ca 11 (by decide)
      have a3 := ca 12 (by decide)
      have a4 := ca 13 (by decide)
      have a5 := ca 14 (by decide)
      have a6 := ca 15 (by decide)
      have a7 := ca 16 (by decide)
      have a8 := ca 17 (by decide)
      have b0 := cb 9 (by decide)
      have b1 := cb 10 (by decide)
      have b2 := cb 11 (by decide)
      have b3 := cb 12 (by decide)
      have b4 := cb 13 (by decide)
      have b5 := cb 14 (by decide)
      have b6 := cb 15 (by decide)
      have b7 := cb 16 (by decide)
      have b8 := cb 17 (by decide)
      clear ca cb
      simp only [told3] at a0 a1 a2 a3 a4 a5 a6 a7 a8 b0 b1 b2 b3 b4 b5 b6 b7 b8
      go_wp2_with fail
      go_region
      all_goals
        clear a0 a1 a2 a3 a4 a5 a6 a7 a8 b0 b1 b2 b3 b4 b5 b6 b7 b8
        go_wp2_with (go_at_call 10; refine (same0 _).mono ?_; rintro e w' ⟨rfl, rfl⟩)
        go_roundw
        case rel => exact ⟨2, by omega, by go_num, ((HO.out.alloc _).alloc _).drew⟩
        case measure => simp [intOf]
    · have a0 := ca 18 (by decide)
      have a1 := ca 19 (by decide)
      have a2 := ca 20 (by decide)
      have a3 := ca 21 (by decide)
      have a4 := ca 22 (by decide)
      have a5 := ca 23 (by decide)
      have a6 := ca 24 (by decide)
      have a7 := ca 25 (by decide)
      have a8 := ca 26 (by decide)
      have b0 := cb 18 (by decide)
      have b1 := cb 19 (by decide)
      have b2 := cb 20 (by decide)
      have b3 := cb 21 (by decide)
      have b4 := cb 22 (by decide)
      have b5 := cb 23 (by decide)
      have b6 := cb 24 (by decide)
      have b7 := cb 25 (by decide)
      have b8 := cb 26 (by decide)
      clear ca cb
      simp only [told3] at a0 a1 a2 a3 a4 a5 a6 a7 a8 b0 b1 b2 b3 b4 b5 b6 b7 b8
      go_wp2_with fail
      go_region
      all_goals
        clear a0 a1 a2 a3 a4 a5 a6 a7 a8 b0 b1 b2 b3 b4 b5 b6 b7 b8
        go_wp2_with (go_at_call 10; refine (same0 _).mono ?_; rintro e w' ⟨rfl, rfl⟩)
        go_roundw
        case rel => exact ⟨3, by omega, by go_num, ((HO.out.alloc _).alloc _).drew⟩
        case measure => simp [intOf]
    · go_wp2_with fail
      go_ret
      exact ⟨rfl, HO.out⟩
end Go.Proofs.YtejckkeahmpcmaaGreatDoor
