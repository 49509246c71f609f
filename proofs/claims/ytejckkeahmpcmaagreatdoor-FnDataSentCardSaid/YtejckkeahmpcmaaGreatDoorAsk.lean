/- The client sends a line and reads its reply. No statement of the seat is proved here. -/
import Derived.Test.YtejckkeahmpcmaaGreatDoorCmd
import Derived.Test.YtejckkeahmpcmaaGreatDoorReply
import Derived.Test.YtejckkeahmpcmaaGreatDoorCode
namespace Go.Proofs.YtejckkeahmpcmaaGreatDoor
open Go.RowKit
set_option linter.unusedVariables false
set_option maxHeartbeats 400000

variable {w : World} {c : Ids} {s : St}

theorem assert222 (w : World) : (Instr.typeAssert .nilIface 89 222 true).run Tryz.prog w = .ok (.tuple #[.pointer none, .bool false]) w := by kernel_rfl

theorem reads (h : Inv w c s) (he : Eb w) (l tail x : List UInt8) (exp code : Int) (hl : l ≠ []) (h10 : (10 : UInt8) ∉ l) (hs : Next s (l ++ 13 :: 10 :: tail)) (hp : Parses l exp code x) :
    Calls Tryz.prog 98 #[ptr c.C, .int .i64 exp] w fun e w' => e = .returned (.tuple #[.int .i64 code, str x, .nilIface]) ∧ Inv w' c { s with inp := [], rest := tail } ∧ Only (May c s.sv) w w' := by
  have hc := h.cl.cell
  have hta := assert222
  have HP := Lib.hid hp; clear hp
  have HL := Lib.hid hl; clear hl
  have HS := Lib.hid hs; clear hs
  go_enter Tryz.func98, Tryz.ntmps98
  go_wp2_with fail
  refine (response h he l tail x exp code HL.out h10 HS.out HP.out).mono ?_
  rintro e w1 ⟨rfl, h1, o1⟩
  have HO := Lib.hid o1; clear o1
  have HH := Lib.hid h1; clear h1
  go_wp2_with fail
  go_ret3
  exact ⟨rfl, HH.out, HO.out⟩

theorem asks (h : Inv w c s) (he : Eb w) (hd : s.dot = .pointer none) (hpn : s.pnd = []) (cmd : List UInt8) (hcl : cmd.length ≤ 4000) (hm : s.snt.length + cmd.length ≤ 90000)
    (l tail x : List UInt8) (exp code : Int) (hl : l ≠ []) (h10 : (10 : UInt8) ∉ l) (hs : Next s (l ++ 13 :: 10 :: tail)) (hp : Parses l exp code x) :
    Calls Tryz.prog 72 #[ptr c.C, .int .i64 exp, str cmd] w fun e w' => e = .returned (.tuple #[.int .i64 code, str x, .nilIface]) ∧
      ∃ v', Inv w' c { s with inp := [], rest := tail, sv := v', snt := s.snt ++ (cmd ++ [13, 10]) } ∧ Step c w s.sv w' v' := by
  have hc := h.cl.cell
  have HP := Lib.hid hp; clear hp
  have HL := Lib.hid hl; clear hl
  have HS := Lib.hid hs; clear hs
  have HD := Lib.hid hd; clear hd
  have HN := Lib.hid hpn; clear hpn
  go_enter Tryz.func72, Tryz.ntmps72
  go_wp2_with fail
  refine (sendline h HD.out HN.out cmd hcl hm).mono ?_
  rintro e w1 ⟨rfl, v', h1, s1⟩
  have he1 := he.step h s1
  go_wp2_with fail
  refine (reads h1 he1 l tail x exp code HL.out h10 HS.out HP.out).mono ?_
  rintro e w2 ⟨rfl, h2, o2⟩
  have HO := Lib.hid o2; clear o2
  have HT := Lib.hid s1; clear s1
  go_wp2_with fail
  go_ret3
  exact ⟨rfl, v', h2, HT.out.trans (Step.same HO.out)⟩
end Go.Proofs.YtejckkeahmpcmaaGreatDoor
