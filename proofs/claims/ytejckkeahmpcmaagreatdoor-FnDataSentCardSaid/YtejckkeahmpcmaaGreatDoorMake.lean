/- The client's making: NewClient and all below it. No statement of the seat is proved here. -/
import Derived.Test.YtejckkeahmpcmaaGreatDoorSent
import Derived.Deep.OwnRows
namespace Go.Proofs.YtejckkeahmpcmaaGreatDoor
open Go.RowKit
set_option linter.unusedVariables false
set_option maxHeartbeats 1000000

variable {w : World}

theorem wpList_mk {ops : Array Oper} {rest : List Oper} {o : Oper} {a : Act} {Q : Exit → Act → World → Prop} (hgd : o.guard = none) (l c : Operand) (hop : o.op = Op.makeSlice 52 l c)
    (hl : a.eval l = .int .i64 4096) (hc : a.eval c = .int .i64 4096)
    (h : ∀ C w', Blk w' w.heap.size C 5 → Hid (C.size = 4096) → Hid (Only (fun _ => False) w w') → Hid (w'.heap.size = w.heap.size + 1) → wpList Tryz.prog ops Q rest (a.put o.dst (.slice (some ⟨w.heap.size, 0, none⟩) 4096 4096)) w') :
    wpList Tryz.prog ops Q (o :: rest) a w := by
  obtain ⟨i0, hi, hz0, hz1, hz2⟩ := info_parts info5
  refine wpList_make_row w hgd l c 52 hop 5 i0 (.int .u8 0) Tryz.underlying52 hi hz0 hz1 rfl .i64 .i64 4096 hl hc (by rw [hz2]; decide) (by decide) ?_
  exact h _ _ (Blk.new w _ _) (by show Array.size _ = _; simp [madeCells]) ((Only.refl _ _).alloc _) (by show Array.size _ = _; simp)

theorem reader_assert (w : World) (x : Value) : (Instr.typeAssert (.iface 121 x) 113 170 true).run Tryz.prog w = .ok (.tuple #[.pointer none, .bool false]) w := by kernel_rfl
theorem writer_assert (w : World) (x : Value) : (Instr.typeAssert (.iface 121 x) 115 172 true).run Tryz.prog w = .ok (.tuple #[.pointer none, .bool false]) w := by kernel_rfl

theorem info255 : (Tryz.prog.info? 255).map (·.size) = some 7 := by kernel_rfl

abbrev brcells (RB : Nat) (x : Value) : Array Value := #[.slice (some ⟨RB, 0, none⟩) 4096 4096, .iface 121 x, .int .i64 0, .int .i64 0, .nilIface, .int .i64 (-1), .int .i64 (-1)]
theorem br_one (RB : Nat) (x : Value) : (brcells RB x).all (·.oneCell') = true := by simp [brcells, Value.oneCell']

theorem reset (w : World) (b RB : Nat) (x : Value) (old : Array Value) (hb : Blk w b old 255) (ho : old.size = 7) : Calls Tryz.prog 159 #[ptr b, .slice (some ⟨RB, 0, none⟩) 4096 4096, .iface 121 x] w fun e w' => e = .returned (.tuple #[]) ∧ Only (fun k => k = b) w w' ∧ Blk w' b (brcells RB x) 255 := by
  have HB := Lib.hid hb; clear hb
  have HS := Lib.hid ho; clear ho
  go_enter Tryz.func159, Tryz.ntmps159
  go_wp2_with (refine wpList_whole rfl 255 (.tmp 10) (.tmp 9) rfl b (brcells RB x) rfl rfl 255 old HB.out info255 HS.out (br_one _ _) ?_; intro w1 hB1 HO1 HW1; have HB1 := Lib.hid hB1; clear hB1)
  go_returns
  exact ⟨rfl, HO1.out, HB1.out⟩

theorem readersize (w : World) (x : Value) : Calls Tryz.prog 114 #[.iface 121 x, .int .i64 4096] w fun e w' => ∃ BR RB C, e = .returned (ptr BR) ∧ Only (fun _ => False) w w' ∧ w.heap.size ≤ BR ∧ w.heap.size ≤ RB ∧
    Blk w' BR (brcells RB x) 255 ∧ Blk w' RB C 5 ∧ C.size = 4096 := by
  have hta := reader_assert
  go_enter Tryz.func114, Tryz.ntmps114
  go_wp2_with (refine wpList_mk rfl (.tmp 27) (.tmp 27) rfl rfl rfl ?_; intro C w1 HB1 HS1 HO1 HZ1)
  have hN : Blk w1 w.heap.size _ 255 := HO1.out.blk (Blk.new w _ _) (fun f => f)
  refine (reset w1 w.heap.size _ x _ hN rfl).mono ?_
  rintro e w2 ⟨rfl, o2, hb2⟩
  have HO2 := Lib.hid o2; clear o2
  have HB2 := Lib.hid hb2; clear hb2
  have HN := Lib.hid hN; clear hN
  have HBB := Lib.hid HB1; clear HB1
  go_wp2_with fail
  go_ret
  refine ⟨_, _, C, rfl, ?_, Nat.le_refl _, Nat.le_succ _, HB2.out, HO2.out.blk (by simpa using HBB.out) (by omega), HS1.out⟩
  exact (((Only.refl (fun _ => False) w).alloc _).trans HO1.out).trans' HO2.out (fun i hi e => by omega)

theorem newreader (w : World) (x : Value) : Calls Tryz.prog 87 #[.iface 121 x] w fun e w' => ∃ BR RB C, e = .returned (ptr BR) ∧ Only (fun _ => False) w w' ∧ w.heap.size ≤ BR ∧ w.heap.size ≤ RB ∧
    Blk w' BR (brcells RB x) 255 ∧ Blk w' RB C 5 ∧ C.size = 4096 := by
  go_enter Tryz.func87, Tryz.ntmps87
  go_wp2_with fail
  refine (readersize w x).mono ?_
  rintro e w2 ⟨BR, RB, C, rfl, h1, h2, h3, h4, h5, h6⟩
  have H1 := Lib.hid h1; have H4 := Lib.hid h4; have H5 := Lib.hid h5; have H6 := Lib.hid h6
  clear h1 h4 h5 h6
  go_wp2_with fail
  go_ret
  exact ⟨BR, RB, C, rfl, H1.out, h2, h3, H4.out, H5.out, H6.out⟩

theorem writersize (w : World) (x : Value) : Calls Tryz.prog 115 #[.iface 121 x, .int .i64 4096] w fun e w' => ∃ BW WB C, e = .returned (ptr BW) ∧ Only (fun _ => False) w w' ∧ w.heap.size ≤ BW ∧ w.heap.size ≤ WB ∧
    Blk w' BW #[.nilIface, .slice (some ⟨WB, 0, none⟩) 4096 4096, .int .i64 0, .iface 121 x] 259 ∧ Blk w' WB C 5 ∧ C.size = 4096 := by
  have hta := writer_assert
  go_enter Tryz.func115, Tryz.ntmps115
  go_wp2_with (refine wpList_mk rfl (.tmp 25) (.tmp 25) rfl rfl rfl ?_; intro C w1 HB1 HS1 HO1 HZ1)
  have HBB := Lib.hid HB1; clear HB1
  have sz := HZ1.out
  go_ret
  refine ⟨_, _, C, rfl, HO1.out.alloc _, by omega, Nat.le_refl _, Blk.new _ _ _, HBB.out.alloc _, HS1.out⟩

theorem newwriter (w : World) (x : Value) : Calls Tryz.prog 88 #[.iface 121 x] w fun e w' => ∃ BW WB C, e = .returned (ptr BW) ∧ Only (fun _ => False) w w' ∧ w.heap.size ≤ BW ∧ w.heap.size ≤ WB ∧
    Blk w' BW #[.nilIface, .slice (some ⟨WB, 0, none⟩) 4096 4096, .int .i64 0, .iface 121 x] 259 ∧ Blk w' WB C 5 ∧ C.size = 4096 := by
  go_enter Tryz.func88, Tryz.ntmps88
  go_wp2_with fail
  refine (writersize w x).mono ?_
  rintro e w2 ⟨BR, RB, C, rfl, h1, h2, h3, h4, h5, h6⟩
  have H1 := Lib.hid h1; have H4 := Lib.hid h4; have H5 := Lib.hid h5; have H6 := Lib.hid h6
  clear h1 h4 h5 h6
  go_wp2_with fail
  go_ret
  exact ⟨BR, RB, C, rfl, H1.out, h2, h3, H4.out, H5.out, H6.out⟩

end Go.Proofs.YtejckkeahmpcmaaGreatDoor
