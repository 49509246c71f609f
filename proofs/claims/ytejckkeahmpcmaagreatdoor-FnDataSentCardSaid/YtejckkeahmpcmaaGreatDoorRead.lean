/- The client's reading side: the wire's Read, the line limit. No statement of the seat is proved here. -/
import Derived.Test.YtejckkeahmpcmaaGreatDoorInv
namespace Go.Proofs.YtejckkeahmpcmaaGreatDoor
open Go.RowKit
set_option linter.unusedVariables false
set_option maxHeartbeats 400000

theorem wireread (w : World) (W RB : Nat) (inp : List UInt8) (sv : Value) (C : Array Value) (hW : Blk w W #[str inp, sv, .bool false] 54) (hR : Blk w RB C 5) (hC : C.size = 4096) (hi : inp ≠ []) (hl : inp.length ≤ 2000) :
    Calls Tryz.prog 229 #[ptr W, .slice (some ⟨RB, 0, none⟩) 4096 4096] w fun e w' => e = .returned (.tuple #[.int .i64 inp.length, .nilIface]) ∧
      Only (fun k => k = W ∨ k = RB) w w' ∧ Blk w' W #[str [], sv, .bool false] 54 ∧ Blk w' RB (putAt C 0 inp) 5 := by
  have hc := hW.cell
  have hf := hW.free
  have hne : W ≠ RB := Blk.ne hW hR (by decide)
  have hc2 : ∀ cs i, (w.setRow RB cs).cell? ⟨W, i, none⟩ = #[str inp, sv, .bool false][i]? := fun cs => (hW.rowOther hne cs).cell
  have hf2 : ∀ cs i, (w.setRow RB cs).frozen? ⟨W, i, none⟩ = false := fun cs => (hW.rowOther hne cs).free
  have hs : (⟨inp.toArray⟩ : ByteArray).size = inp.length := rfl
  have he : inp.isEmpty = false := by cases inp with | nil => exact absurd rfl hi | cons a l => rfl
  have K1 : Hid ((⟨inp.toArray⟩ : ByteArray).size ≤ 4096) := by show _ ≤ _; rw [hs]; omega
  have K2 : Hid (0 + (⟨inp.toArray⟩ : ByteArray).size ≤ C.size) := by show _ ≤ _; rw [hs]; omega
  go_enter Tryz.func229, Tryz.ntmps229
  go_wp2_with (refine wpList_copy_string rfl (.tmp 18) (.tmp 22) 52 9 rfl 5 Tryz.underlying52 (by kernel_rfl) RB 0 4096 4096 ⟨inp.toArray⟩ rfl rfl C 5 hR K1.out K2.out ?_)
  go_ret2
  refine ⟨rfl, (((Only.refl _ _).setRow _ _ (fun _ => .inr rfl)).setCell _ _ (fun _ => .inl rfl)), ?_, (hR.row _).other (by exact hne.symm) _⟩
  have := (hW.rowOther hne (putAt C 0 inp)).set 0 (str [])
  have e : Value.string ByteArray.empty = str [] := rfl
  rw [e]
  simpa using this

set_option maxRecDepth 10000 in
/-- The line limit's loop: it counts, and lets by. -/
theorem limread (w : World) (L W RB : Nat) (inp : List UInt8) (sv : Value) (C : Array Value) (hL : Blk w L #[.iface 51 (ptr W), .int .i64 2000, .int .i64 0] 118) (hW : Blk w W #[str inp, sv, .bool false] 54) (hR : Blk w RB C 5) (hC : C.size = 4096) (hi : inp ≠ []) (hl : inp.length ≤ 2000) :
    Calls Tryz.prog 231 #[ptr L, .slice (some ⟨RB, 0, none⟩) 4096 4096] w fun e w' => e = .returned (.tuple #[.int .i64 inp.length, .nilIface]) ∧
      Only (fun k => k = W ∨ k = L ∨ k = RB) w w' ∧ Blk w' W #[str [], sv, .bool false] 54 ∧ Blk w' RB (putAt C 0 inp) 5 ∧ ∃ k : Nat, k ≤ 2000 ∧ Blk w' L #[.iface 51 (ptr W), .int .i64 2000, .int .i64 k] 118 := by
  have hc := hL.cell
  have hf := hL.free
  have nLW : L ≠ W := Blk.ne hL hW (by decide)
  have nLR : L ≠ RB := Blk.ne hL hR (by decide)
  have hll : (inp.length : Int) ≤ 4096 := by omega
  have h2 : ¬ (4096 = 0) := by omega
  go_enter Tryz.func231, Tryz.ntmps231
  go_wp2_with fail
  go_quiet (fail)
  go_wp2_with (go_at_call 229; refine (wireread _ W RB inp sv C (hW.drewN _) (hR.drewN _) hC hi hl).mono ?_; rintro e w1 ⟨rfl, o1, hW1, hR1⟩; have hL1 := o1.blk (hL.drewN _) (fun e => e.elim nLW nLR); have hc1 := hL1.cell; have hf1 := hL1.free; have HW1 := Lib.hid hW1; clear hW1; have HR1 := Lib.hid hR1; clear hR1; have HL1 := Lib.hid hL1; clear hL1; have HO1 := Lib.hid o1; clear o1)
  go_loopw [50] (fun i wr => ∃ k m : Nat, k ≤ inp.length ∧ m ≤ k ∧ i = .int .i64 k ∧ Blk wr L #[.iface 51 (ptr W), .int .i64 2000, .int .i64 m] 118 ∧ Only (fun k => k = L) w1 wr) (fun i _ => inp.length - (intOf i).toNat)
  case atStart => exact ⟨0, 0, Nat.zero_le _, Nat.le_refl _, rfl, HL1.out, Only.refl _ _⟩
  case round =>
    obtain ⟨k, m, hk, hm, rfl, hbl, hol⟩ := hrel
    have hcL := hbl.cell
    have hfL := hbl.free
    have hmi : (m : Int) ≤ 2000 := by omega
    have hR2 := hol.blk HR1.out (by exact nLR.symm)
    clear hc1 hf1 hc hf
    have HBL := Lib.hid hbl; clear hbl
    have HOL := Lib.hid hol; clear hol
    by_cases hlt : k < inp.length
    · have hb : wr.cell? ⟨RB, k, none⟩ = some (.int .u8 inp[k].toNat) := by
        have := (Lies.put (Lies.nil C 0) (k := 0) rfl inp (by omega)) k inp[k] (by simp [hlt])
        rw [Nat.zero_add] at this
        rw [hR2.cell]; exact this
      have HR2 := Lib.hid hR2; clear hR2
      by_cases h10 : inp[k].toNat = 10
      · have hq : ((inp[k].toNat : Int) == 10) = true := by rw [beq_iff_eq]; omega
        clear h10
        go_wp2
        go_quiet (fail)
        go_wp2
        go_roundw
        case rel =>
          refine ⟨k + 1, 1, by omega, by omega, by go_num, ?_, ?_⟩
          · have := ((HBL.out.set 2 (.int .i64 0)).set 2 (.int .i64 1)).drewN nq
            simpa using this
          · exact ((HOL.out.setCell ⟨L, 2, none⟩ (.int .i64 0) (fun _ => rfl)).setCell ⟨L, 2, none⟩ (.int .i64 1) (fun _ => rfl)).drewN nq
        case measure => simp [intOf]; omega
      · have hq : ((inp[k].toNat : Int) == 10) = false := by rw [beq_eq_false_iff_ne]; omega
        have hmi2 : decide ((2000 : Int) < (m : Int) + 1) = false := by simp; omega
        clear h10
        go_wp2
        go_quiet (fail)
        go_wp2
        go_roundw
        case rel =>
          refine ⟨k + 1, m + 1, by omega, by omega, by go_num, ?_, ?_⟩
          · have := (HBL.out.set 2 (.int .i64 (m + 1))).drewN nq
            simpa using this
          · exact (HOL.out.setCell ⟨L, 2, none⟩ (.int .i64 (m + 1)) (fun _ => rfl)).drewN nq
        case measure => simp [intOf]; omega
    · go_wp2
      go_ret2
      have ho := HOL.out
      refine ⟨rfl, ?_, ho.blk HW1.out (by exact nLW.symm), hR2, m, by omega, HBL.out⟩
      exact Only.trans ((((Only.refl _ _).drewN _).trans HO1.out).mono (fun k hk => hk.elim .inl (fun e => .inr (.inr e)))) (ho.mono (fun k hk => .inr (.inl hk)))
end Go.Proofs.YtejckkeahmpcmaaGreatDoor
