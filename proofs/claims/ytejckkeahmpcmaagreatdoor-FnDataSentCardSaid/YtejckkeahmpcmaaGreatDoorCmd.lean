/- A command's line is sent. No statement of the seat is proved here. -/
import Derived.Test.YtejckkeahmpcmaaGreatDoorSend
namespace Go.Proofs.YtejckkeahmpcmaaGreatDoor
open Go.RowKit
set_option linter.unusedVariables false
set_option maxHeartbeats 400000

variable {w : World} {c : Ids} {s : St}

theorem nodot (w : World) (TC : Nat) (a b d : Value) (hc : ∀ i, w.cell? ⟨TC, i, none⟩ = #[a, b, d, .pointer none][i]?) :
    Calls Tryz.prog 126 #[ptr TC] w fun e w' => e = .returned (.tuple #[]) ∧ w = w' := by
  go_enter Tryz.func126, Tryz.ntmps126
  go_wp2
  go_end0
  exact ⟨rfl, rfl⟩

theorem sendline (h : Inv w c s) (hd : s.dot = .pointer none) (hp : s.pnd = []) (l : List UInt8) (hl : l.length ≤ 4000) (hm : s.snt.length + l.length ≤ 90000) :
    Calls Tryz.prog 97 #[ptr c.TC, str l] w fun e w' => e = .returned .nilIface ∧ ∃ v', Inv w' c { s with sv := v', snt := s.snt ++ (l ++ [13, 10]) } ∧ Step c w s.sv w' v' := by
  obtain ⟨inp, rest, snt, pnd, sv, dot, ext, dg, dh, rc⟩ := s
  simp only at hd hp hm
  subst hd hp
  have hc := h.tc.cell
  have hf := h.tc.free
  have ch (l : List UInt8) : Value.string ⟨l.toArray⟩ = str l := rfl
  go_enter Tryz.func97, Tryz.ntmps97
  go_wp2_with fail
  refine (nodot _ _ _ _ _ hc).mono ?_
  rintro e w' ⟨rfl, rfl⟩
  go_wp2_with fail
  refine (wstr h l (by simp; omega)).mono ?_
  rintro e w1 ⟨rfl, h1, o1⟩
  have hc1 := h1.tc.cell
  go_wp2_with fail
  refine (wstr h1 [13, 10] (by simp; omega)).mono ?_
  rintro e w2 ⟨rfl, h2, o2⟩
  have hc2 := h2.tc.cell
  go_wp2_with fail
  refine (flush h2 (by simp) (by simp; omega)).mono ?_
  rintro e w3 ⟨rfl, v', h3, s3⟩
  go_wp2_with fail
  go_ret
  refine ⟨rfl, v', by simpa using h3, ?_⟩
  exact Step.mono_left (o1.trans o2) (by rintro k (rfl | rfl) <;> exact .inl (by simp [Ids.all])) s3

end Go.Proofs.YtejckkeahmpcmaaGreatDoor
