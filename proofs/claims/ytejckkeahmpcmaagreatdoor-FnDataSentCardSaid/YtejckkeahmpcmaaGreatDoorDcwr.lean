/- The data command's close and CloseWithResponse. No statement of the seat is proved here. -/
import Derived.Test.YtejckkeahmpcmaaGreatDoorDclose
namespace Go.Proofs.YtejckkeahmpcmaaGreatDoor
open Go.RowKit
set_option linter.unusedVariables false
set_option maxHeartbeats 1000000

variable {w : World} {c : Ids} {s : St}

theorem cclose (h : Inv w c s) {D E : Nat} {st : Nat} (hd : s.dot = ptr D) (hE : Blk w E #[ptr c.C, .iface 174 (ptr D), .nilIface] 191) (hb : Blk w D #[ptr c.TC, .int .i64 st] 226) (hst : st = 0 ∨ st = 1 ∨ st = 3) (hl : s.pnd.length < 4000) (hm : s.snt.length ≤ 50000) :
    Calls Tryz.prog 101 #[ptr E] w fun e w' => e = .returned .nilIface ∧ ∃ v' x, Inv w' c { s with sv := v', snt := s.snt ++ (s.pnd ++ dotend st), pnd := [], dot := .pointer none } ∧
      Blk w' E #[ptr c.C, .iface 174 (ptr D), x] 191 ∧ Only (fun k => May c s.sv k ∨ k = E) w w' ∧ (∀ i, v'.ownBlock = some i → s.sv.ownBlock = some i ∨ w.heap.size ≤ i) := by
  have hcE := hE.cell
  have hnE := h.may_not hE (by decide)
  have HB := Lib.hid hb; clear hb
  have HE := Lib.hid hE; clear hE
  have HD := Lib.hid hd; clear hd
  have HN := Lib.hid hnE; clear hnE
  go_enter Tryz.func101, Tryz.ntmps101
  go_wp2_with fail
  refine (dclose h HD.out HB.out hst hl hm).mono ?_
  rintro e w1 ⟨rfl, v1, h1, s1⟩
  have hE1 := s1.only.blk HE.out HN.out
  have HS1 := Lib.hid s1; clear s1
  clear hcE
  go_wp2_with fail
  refine (errnew _ [115, 109, 116, 112, 58, 32, 100, 97, 116, 97, 32, 119, 114, 105, 116, 101, 114, 32, 99, 108, 111, 115, 101, 100, 32, 116, 119, 105, 99, 101]).mono ?_
  rintro e w2 ⟨x, rfl, o2⟩
  have h2 := h1.only o2 (fun _ f => f.elim)
  have hE2 := o2.blk hE1 (fun f => f)
  have hcE2 := hE2.cell
  have hfE2 := hE2.free
  have HO2 := Lib.hid o2; clear o2
  have hx := h2.only ((Only.refl (fun k => k = E) _).setCell ⟨E, 2, none⟩ (.iface 178 x) (fun _ => rfl)) (fun k hk => by subst hk; exact h2.may_not hE2 (by decide))
  have hEx := hE2.set 2 (.iface 178 x)
  have HX := Lib.hid hx; clear hx
  have HEX := Lib.hid hEx; clear hEx hE1 hE2
  go_wp2_with fail
  go_ret
  refine ⟨rfl, v1, .iface 178 x, HX.out, by simpa using HEX.out, ?_, HS1.out.own⟩
  have o3 : Only (fun k => May c s.sv k ∨ k = E) w w2 := (HS1.out.only.mono (fun _ h => .inl h)).trans (HO2.out.mono (fun _ f => f.elim))
  exact o3.setCell ⟨E, 2, none⟩ (.iface 178 x) (fun _ => .inr rfl)

theorem cwr (h : Inv w c s) (he : Eb w) {D E : Nat} {st : Nat} (hd : s.dot = ptr D) (hE : Blk w E #[ptr c.C, .iface 174 (ptr D), .nilIface] 191) (hb : Blk w D #[ptr c.TC, .int .i64 st] 226) (hst : st = 0 ∨ st = 1 ∨ st = 3) (hl : s.pnd.length < 4000) (hm : s.snt.length ≤ 50000)
    (heE : E ≠ 10) (tail : List UInt8) (hs : Next s (l250 ++ 13 :: 10 :: tail)) :
    Calls Tryz.prog 80 #[ptr E] w fun e w' => ∃ R, e = .returned (.tuple #[ptr R, .nilIface]) ∧ ∃ v', Inv w' c { s with inp := [], rest := tail, sv := v', snt := s.snt ++ (s.pnd ++ dotend st), pnd := [], dot := .pointer none } ∧
      Blk w' R #[str [120]] 160 ∧ w.heap.size ≤ R ∧ Only (fun k => May c s.sv k ∨ k = E) w w' ∧ (∀ i, v'.ownBlock = some i → s.sv.ownBlock = some i ∨ w.heap.size ≤ i) := by
  have hcE := hE.cell
  have hcC := h.cl.cell
  have HB := Lib.hid hb; clear hb
  have HE := Lib.hid hE; clear hE
  have HD := Lib.hid hd; clear hd
  have HS := Lib.hid hs; clear hs
  have HN := Lib.hid heE; clear heE
  go_enter Tryz.func80, Tryz.ntmps80
  go_wp2_with fail
  refine (cclose h HD.out HE.out HB.out hst hl hm).mono ?_
  rintro e w1 ⟨rfl, v1, x, h1, hE1, o1, own1⟩
  have hc1 := hE1.cell
  have HE1 := Lib.hid hE1; clear hE1
  have HO1 := Lib.hid o1; clear o1
  have HW1 := Lib.hid own1; clear own1
  have he1 : Eb w1 := he.only HO1.out (fun k => k.elim (he.not h) (fun e => HN.out e.symm))
  clear hcE hcC
  go_wp2_with fail
  refine (reads h1 he1 l250 tail [120] 250 250 (by simp [l250]) (by simp [l250]) HS.out parse250_250).mono ?_
  rintro e w2 ⟨rfl, h2, o2⟩
  have HO2 := Lib.hid o2; clear o2
  have hsz := HO1.out.size
  have hsz2 := HO2.out.size
  clear hc1
  go_wp2_with fail
  go_ret2
  refine ⟨_, rfl, v1, h2.alloc _, Blk.new _ _ _, by omega, ?_, HW1.out⟩
  have o3 := HO1.out.trans' HO2.out (fun i hi hm => by
    rcases hm with hm | hm
    · exact .inl (.inl hm)
    · rcases HW1.out i hm with h1 | h1
      · exact .inl (.inr h1)
      · omega)
  exact o3.alloc _
end Go.Proofs.YtejckkeahmpcmaaGreatDoor
