/- NewClient. No statement of the seat is proved here. -/
import Derived.Test.YtejckkeahmpcmaaGreatDoorMake
namespace Go.Proofs.YtejckkeahmpcmaaGreatDoor
open Go.RowKit
set_option linter.unusedVariables false
set_option maxHeartbeats 1000000

variable {w : World}

/-- A fresh textproto connection, in blocks from B on. -/
structure Fresh (B : Nat) (w' : World) (x : Value) (TC BR RB BW WB : Nat) : Prop where
  gTC : B ≤ TC
  gBR : B ≤ BR
  gRB : B ≤ RB
  gBW : B ≤ BW
  gWB : B ≤ WB
  tc : Blk w' TC #[ptr BR, ptr BW, .iface 121 x, .pointer none] 176
  br : Blk w' BR (brcells RB x) 255
  bw : Blk w' BW #[.nilIface, .slice (some ⟨WB, 0, none⟩) 4096 4096, .int .i64 0, .iface 121 x] 259
  rb : ∃ C, Blk w' RB C 5 ∧ C.size = 4096
  wb : ∃ C, Blk w' WB C 5 ∧ C.size = 4096
  rbwb : RB ≠ WB

theorem Fresh.on {B : Nat} {w' w'' : World} {x : Value} {TC BR RB BW WB : Nat} (h : Fresh B w' x TC BR RB BW WB) {S : Nat → Prop} (o : Only S w' w'') (hS : ∀ k, S k → k < B) : Fresh B w'' x TC BR RB BW WB := by
  have n : ∀ k, B ≤ k → ¬ S k := fun k hk s => by have := hS k s; omega
  obtain ⟨C, h1, h2⟩ := h.rb
  obtain ⟨C', h3, h4⟩ := h.wb
  exact { h with tc := o.blk h.tc (n _ h.gTC), br := o.blk h.br (n _ h.gBR), bw := o.blk h.bw (n _ h.gBW), rb := ⟨C, o.blk h1 (n _ h.gRB), h2⟩, wb := ⟨C', o.blk h3 (n _ h.gWB), h4⟩ }

theorem newconn (w : World) (x : Value) : Calls Tryz.prog 63 #[.iface 121 x] w fun e w' => ∃ TC BR RB BW WB, e = .returned (ptr TC) ∧ Fresh w.heap.size w' x TC BR RB BW WB ∧ Only (fun _ => False) w w' := by
  go_enter Tryz.func63, Tryz.ntmps63
  go_wp2_with fail
  refine (newreader w x).mono ?_
  rintro e w1 ⟨BR, RB, C, rfl, h1, h2, h3, h4, h5, h6⟩
  have H1 := Lib.hid h1; have H4 := Lib.hid h4; have H5 := Lib.hid h5; have H6 := Lib.hid h6
  clear h1 h4 h5 h6
  go_wp2_with fail
  refine (newwriter w1 x).mono ?_
  rintro e w2 ⟨BW, WB, C', rfl, k1, k2, k3, k4, k5, k6⟩
  have K1 := Lib.hid k1; have K4 := Lib.hid k4; have K5 := Lib.hid k5; have K6 := Lib.hid k6
  clear k1 k4 k5 k6
  have sz := H1.out.size
  have sz2 := K1.out.size
  have ltRB := H5.out.lt
  go_wp2_with fail
  go_ret
  refine ⟨w2.heap.size, BR, RB, BW, WB, rfl, ?_, (H1.out.trans K1.out).alloc _⟩
  exact { gTC := by omega, gBR := h2, gRB := h3, gBW := by omega, gWB := by omega, tc := Blk.new _ _ _,
          br := (K1.out.blk H4.out (fun f => f)).alloc _, bw := K4.out.alloc _, rb := ⟨C, (K1.out.blk H5.out (fun f => f)).alloc _, H6.out⟩, wb := ⟨C', K5.out.alloc _, K6.out⟩, rbwb := by omega }

abbrev clcells (W : Nat) (cn tc : Value) : Array Value := #[cn, tc, .bool false, .map none, .string ⟨#[108, 111, 99, 97, 108, 104, 111, 115, 116]⟩, .bool false, .nilIface, .bool false, .nilIface, .slice none 0 0]

theorem setconn (w : World) (C W : Nat) (hC : Blk w C (clcells W .nilIface (.pointer none)) 91) :
    Calls Tryz.prog 44 #[ptr C, .iface 51 (ptr W)] w fun e w' => ∃ L TC BR RB BW WB, e = .returned (.tuple #[]) ∧ w.heap.size ≤ L ∧
      Blk w' C (clcells W (.iface 51 (ptr W)) (ptr TC)) 91 ∧ Blk w' L #[.iface 51 (ptr W), .int .i64 2000, .int .i64 0] 118 ∧ Fresh w.heap.size w' (.agg #[.iface 116 (ptr L), .iface 51 (ptr W), .iface 51 (ptr W)]) TC BR RB BW WB ∧ Only (fun k => k = C) w w' := by
  have hc := hC.cell
  have hf := hC.free
  have ltC := hC.lt
  have ne1 : ¬ C = w.heap.size := by omega
  have ne2 : ¬ C = w.heap.size + 1 := by omega
  have HC := Lib.hid hC; clear hC
  go_enter Tryz.func44, Tryz.ntmps44
  go_wp2_with fail
  refine (newconn _ _).mono ?_
  rintro e w2 ⟨TC, BR, RB, BW, WB, rfl, hF, o2⟩
  have oS : Only (fun k => k = C) w (w.setCell ⟨C, 0, none⟩ (.iface 51 (ptr W))) := (Only.refl _ _).setCell _ _ (fun _ => rfl)
  have hb2 := o2.blk (((HC.out.set 0 (.iface 51 (ptr W))).alloc _).alloc _) (fun f => f)
  have hL2 := o2.blk ((Blk.new (w.setCell ⟨C, 0, none⟩ (.iface 51 (ptr W))) #[.iface 51 (ptr W), .int .i64 2000, .int .i64 0] 118).alloc _) (fun f => f)
  have oA := ((oS.alloc _).alloc _).trans (o2.mono (fun _ f => f.elim))
  simp only [World.size_alloc, World.size_setCell] at hF hL2
  have hc2 := hb2.cell
  have hf2 := hb2.free
  have HB2 := Lib.hid hb2; clear hb2
  have HL2 := Lib.hid hL2; clear hL2
  have HA := Lib.hid oA; clear oA oS
  have HO := Lib.hid o2; clear o2
  clear hc hf
  go_wp2_with fail
  go_returns
  have o3 : ∀ v, Only (fun k => k = C) w2 (w2.setCell ⟨C, 1, none⟩ v) := fun v => (Only.refl _ _).setCell _ _ (fun _ => rfl)
  refine ⟨w.heap.size, TC, BR, RB, BW, WB, rfl, Nat.le_refl _, by simpa [clcells] using HB2.out.set 1 (ptr TC), (o3 _).blk HL2.out (by omega), ?_, HA.out.trans (o3 _)⟩
  have hG := hF.on (o3 (ptr TC)) (fun k hk => by omega)
  exact { hG with gTC := by have := hG.gTC; omega, gBR := by have := hG.gBR; omega, gRB := by have := hG.gRB; omega, gBW := by have := hG.gBW; omega, gWB := by have := hG.gWB; omega }

/-- A fresh client. -/
abbrev s0 (inp : List UInt8) : St := { inp := inp, rest := [], snt := [], pnd := [], sv := .slice none 0 0, dot := .pointer none, ext := .map none, dg := false, dh := false, rc := .slice none 0 0 }

theorem newclient (w : World) (W : Nat) (inp : List UInt8) (hl : inp.length ≤ 2000) (hW : Blk w W #[str inp, .slice none 0 0, .bool false] 54) :
    Calls Tryz.prog 31 #[.iface 51 (ptr W)] w fun e w' => ∃ c : Ids, e = .returned (ptr c.C) ∧ c.W = W ∧ (∀ k, c.all k → k = W ∨ w.heap.size ≤ k) ∧ Inv w' c (s0 inp) ∧ Only (fun _ => False) w w' := by
  have ltW := hW.lt
  have HW := Lib.hid hW; clear hW
  go_enter Tryz.func31, Tryz.ntmps31
  go_wp2_with fail
  refine (setconn _ w.heap.size W (Blk.new w _ _)).mono ?_
  rintro e w2 ⟨L, TC, BR, RB, BW, WB, rfl, gL, hC, hL, hF, o2⟩
  have HC := Lib.hid hC; clear hC
  have HL := Lib.hid hL; clear hL
  have HO := Lib.hid o2; clear o2
  simp only [World.size_alloc] at gL hF
  have HF := Lib.hid hF; clear hF
  go_wp2_with fail
  go_ret
  have hF := HF.out
  obtain ⟨C1, h1, h2⟩ := hF.rb
  obtain ⟨C2, h3, h4⟩ := hF.wb
  have oA : Only (fun _ => False) w w2 := ((Only.refl (fun _ => False) w).alloc _).trans' HO.out (fun i hi e => by omega)
  have hW2 := oA.blk HW.out (fun f => f)
  refine ⟨{ W := W, L := L, BR := BR, RB := RB, BW := BW, WB := WB, TC := TC, C := w.heap.size, Bs := w2.heap.size }, rfl, rfl, ?_, ?_, oA⟩
  · intro k hk
    have a1 := hF.gTC; have a2 := hF.gBR; have a3 := hF.gRB; have a4 := hF.gBW; have a5 := hF.gWB
    rcases hk with rfl | rfl | rfl | rfl | rfl | rfl | rfl | rfl
    · exact .inl rfl
    all_goals (right; show _ ≤ _; first | omega | exact Nat.le_refl _ | simp only []; omega)
  exact { wire := hW2, own := ⟨rfl, .inl ⟨rfl, rfl⟩⟩, lim := ⟨0, HL.out, by simpa using hl, fun _ => rfl⟩, br := ⟨0, -1, -1, hF.br, by simp, fun _ => ⟨rfl, rfl⟩, C1, h1, h2, Lies.nil _ _⟩,
          bw := hF.bw, wb := ⟨C2, h3, h4, Lies.nil _ _⟩, pl := by simp, tc := hF.tc, cl := HC.out, rbwb := hF.rbwb,
          lt := by
            intro k hk
            rcases hk with rfl | rfl | rfl | rfl | rfl | rfl | rfl | rfl
            · exact hW2.lt
            · exact HL.out.lt
            · exact hF.br.lt
            · exact h1.lt
            · exact hF.bw.lt
            · exact h3.lt
            · exact hF.tc.lt
            · exact HC.out.lt,
          bs := Nat.le_refl _ }
end Go.Proofs.YtejckkeahmpcmaaGreatDoor
