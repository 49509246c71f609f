/- The codes of the server's lines. No statement of the seat is proved here. -/
import Derived.Test.YtejckkeahmpcmaaGreatDoorBase
namespace Go.Proofs.YtejckkeahmpcmaaGreatDoor
open Go.RowKit
set_option linter.unusedVariables false
set_option maxHeartbeats 1000000

set_option maxRecDepth 20000 in
theorem atoi220 (w : World) : Calls Tryz.prog 112 #[str [50, 50, 48]] w fun e w' => e = .returned (.tuple #[.int .i64 220, .nilIface]) ∧ Only (fun _ => False) w w' := by
  go_enter Tryz.func112, Tryz.ntmps112
  go_wp2_with (refine wpList_bytes rfl (.tmp 46) 9 52 5 rfl Tryz.underlying9 Tryz.underlying52 Tryz.underlying5 [50, 50, 48] rfl ?_; intro cap w1 hb HO HS; have c0 := hb 0 (by simp); have c1 := hb 1 (by simp); have c2 := hb 2 (by simp); clear hb; simp only [List.getD_cons_zero, List.getD_cons_succ] at c0 c1 c2)
  refine wp_loop_rounds 4 ?_
  rw [rounds_succ]
  go_wp2
  rw [rounds_succ]
  go_wp2
  rw [rounds_succ]
  go_wp2
  rw [rounds_succ]
  go_wp2
  go_ret2
  exact ⟨rfl, HO.out⟩

theorem sAtoi220 (w : World) : Calls Tryz.prog 86 #[str [50, 50, 48]] w fun e w' => e = .returned (.tuple #[.int .i64 220, .nilIface]) ∧ Only (fun _ => False) w w' := by
  go_enter Tryz.func86, Tryz.ntmps86
  go_wp2_with fail
  refine (atoi220 _).mono ?_
  rintro e w1 ⟨rfl, o1⟩
  have HO := Lib.hid o1; clear o1
  go_wp2_with fail
  go_ret2
  exact ⟨rfl, HO.out⟩

set_option maxRecDepth 20000 in
theorem atoi250 (w : World) : Calls Tryz.prog 112 #[str [50, 53, 48]] w fun e w' => e = .returned (.tuple #[.int .i64 250, .nilIface]) ∧ Only (fun _ => False) w w' := by
  go_enter Tryz.func112, Tryz.ntmps112
  go_wp2_with (refine wpList_bytes rfl (.tmp 46) 9 52 5 rfl Tryz.underlying9 Tryz.underlying52 Tryz.underlying5 [50, 53, 48] rfl ?_; intro cap w1 hb HO HS; have c0 := hb 0 (by simp); have c1 := hb 1 (by simp); have c2 := hb 2 (by simp); clear hb; simp only [List.getD_cons_zero, List.getD_cons_succ] at c0 c1 c2)
  refine wp_loop_rounds 4 ?_
  rw [rounds_succ]
  go_wp2
  rw [rounds_succ]
  go_wp2
  rw [rounds_succ]
  go_wp2
  rw [rounds_succ]
  go_wp2
  go_ret2
  exact ⟨rfl, HO.out⟩

theorem sAtoi250 (w : World) : Calls Tryz.prog 86 #[str [50, 53, 48]] w fun e w' => e = .returned (.tuple #[.int .i64 250, .nilIface]) ∧ Only (fun _ => False) w w' := by
  go_enter Tryz.func86, Tryz.ntmps86
  go_wp2_with fail
  refine (atoi250 _).mono ?_
  rintro e w1 ⟨rfl, o1⟩
  have HO := Lib.hid o1; clear o1
  go_wp2_with fail
  go_ret2
  exact ⟨rfl, HO.out⟩

set_option maxRecDepth 20000 in
theorem atoi354 (w : World) : Calls Tryz.prog 112 #[str [51, 53, 52]] w fun e w' => e = .returned (.tuple #[.int .i64 354, .nilIface]) ∧ Only (fun _ => False) w w' := by
  go_enter Tryz.func112, Tryz.ntmps112
  go_wp2_with (refine wpList_bytes rfl (.tmp 46) 9 52 5 rfl Tryz.underlying9 Tryz.underlying52 Tryz.underlying5 [51, 53, 52] rfl ?_; intro cap w1 hb HO HS; have c0 := hb 0 (by simp); have c1 := hb 1 (by simp); have c2 := hb 2 (by simp); clear hb; simp only [List.getD_cons_zero, List.getD_cons_succ] at c0 c1 c2)
  refine wp_loop_rounds 4 ?_
  rw [rounds_succ]
  go_wp2
  rw [rounds_succ]
  go_wp2
  rw [rounds_succ]
  go_wp2
  rw [rounds_succ]
  go_wp2
  go_ret2
  exact ⟨rfl, HO.out⟩

theorem sAtoi354 (w : World) : Calls Tryz.prog 86 #[str [51, 53, 52]] w fun e w' => e = .returned (.tuple #[.int .i64 354, .nilIface]) ∧ Only (fun _ => False) w w' := by
  go_enter Tryz.func86, Tryz.ntmps86
  go_wp2_with fail
  refine (atoi354 _).mono ?_
  rintro e w1 ⟨rfl, o1⟩
  have HO := Lib.hid o1; clear o1
  go_wp2_with fail
  go_ret2
  exact ⟨rfl, HO.out⟩

set_option maxRecDepth 20000 in
theorem parse220_220 (w : World) : Calls Tryz.prog 170 #[str [50, 50, 48, 32, 120], .int .i64 220] w fun e w' => e = .returned (.tuple #[.int .i64 220, .bool false, str [120], .nilIface]) ∧ Only (fun _ => False) w w' := by
  go_enter Tryz.func170, Tryz.ntmps170
  go_wp2_with fail
  refine (sAtoi220 _).mono ?_
  rintro e w1 ⟨rfl, o1⟩
  have HO := Lib.hid o1; clear o1
  go_wp2_with fail
  go_returns
  exact ⟨rfl, HO.out⟩

set_option maxRecDepth 20000 in
theorem parse250_250 (w : World) : Calls Tryz.prog 170 #[str [50, 53, 48, 32, 120], .int .i64 250] w fun e w' => e = .returned (.tuple #[.int .i64 250, .bool false, str [120], .nilIface]) ∧ Only (fun _ => False) w w' := by
  go_enter Tryz.func170, Tryz.ntmps170
  go_wp2_with fail
  refine (sAtoi250 _).mono ?_
  rintro e w1 ⟨rfl, o1⟩
  have HO := Lib.hid o1; clear o1
  go_wp2_with fail
  go_returns
  exact ⟨rfl, HO.out⟩

set_option maxRecDepth 20000 in
theorem parse250_25 (w : World) : Calls Tryz.prog 170 #[str [50, 53, 48, 32, 120], .int .i64 25] w fun e w' => e = .returned (.tuple #[.int .i64 250, .bool false, str [120], .nilIface]) ∧ Only (fun _ => False) w w' := by
  go_enter Tryz.func170, Tryz.ntmps170
  go_wp2_with fail
  refine (sAtoi250 _).mono ?_
  rintro e w1 ⟨rfl, o1⟩
  have HO := Lib.hid o1; clear o1
  go_wp2_with fail
  go_returns
  exact ⟨rfl, HO.out⟩

set_option maxRecDepth 20000 in
theorem parse354_354 (w : World) : Calls Tryz.prog 170 #[str [51, 53, 52, 32, 120], .int .i64 354] w fun e w' => e = .returned (.tuple #[.int .i64 354, .bool false, str [120], .nilIface]) ∧ Only (fun _ => False) w w' := by
  go_enter Tryz.func170, Tryz.ntmps170
  go_wp2_with fail
  refine (sAtoi354 _).mono ?_
  rintro e w1 ⟨rfl, o1⟩
  have HO := Lib.hid o1; clear o1
  go_wp2_with fail
  go_returns
  exact ⟨rfl, HO.out⟩
end Go.Proofs.YtejckkeahmpcmaaGreatDoor
