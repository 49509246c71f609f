/- The data command's Write, Close and CloseWithResponse. No statement of the seat is proved here. -/
import Derived.Test.YtejckkeahmpcmaaGreatDoorDwrite
import Derived.LaidEqlPtr
namespace Go.Proofs.YtejckkeahmpcmaaGreatDoor
open Go.RowKit
set_option linter.unusedVariables false
set_option maxHeartbeats 1000000

variable {w : World} {c : Ids} {s : St}

theorem Step.then' {c : Ids} {a b d : World} {v v' v'' : Value} (h : Step c a v b v') {S : Nat → Prop} (k : Only S b d) (hS : ∀ i, S i → May c v' i ∨ a.heap.size ≤ i)
    (ho : ∀ i, v''.ownBlock = some i → v'.ownBlock = some i ∨ b.heap.size ≤ i) : Step c a v d v'' :=
  ⟨(h.then k hS).only, fun i hi => by
    rcases ho i hi with h1 | h1
    · exact h.own i h1
    · exact .inr (Nat.le_trans h.only.size h1)⟩

theorem cmdwrite (h : Inv w c s) {D E : Nat} (hE : Blk w E #[ptr c.C, .iface 174 (ptr D), .nilIface] 191) (hb : Blk w D #[ptr c.TC, .int .i64 0] 226) (g cap : Nat) (l : List UInt8) (hrow : ∀ j, j < l.length → w.cell? ⟨g, j, none⟩ = some (.int .u8 (l.getD j 0).toNat))
    (hg : g < w.heap.size) (hgD : ¬ Dw c D g) (hl : s.pnd.length + 2 * l.length < 4000) (h13 : (13 : UInt8) ∉ l) :
    Calls Tryz.prog 79 #[ptr E, .slice (some ⟨g, 0, none⟩) l.length cap] w fun e w' => e = .returned (.tuple #[.int .i64 l.length, .nilIface]) ∧ Inv w' c { s with pnd := s.pnd ++ dots 0 l } ∧
      Blk w' D #[ptr c.TC, .int .i64 (dotst 0 l)] 226 ∧ Only (Dw c D) w w' := by
  have hcE := hE.cell
  have HR := Lib.hid hrow; clear hrow
  have H13 := Lib.hid h13; clear h13
  have HG := Lib.hid hgD; clear hgD
  have HB := Lib.hid hb; clear hb
  go_enter Tryz.func79, Tryz.ntmps79
  go_wp2_with fail
  refine (dwrite h HB.out g cap l HR.out hg HG.out hl H13.out).mono ?_
  rintro e w1 ⟨rfl, h1, hb1, o1⟩
  have HB1 := Lib.hid hb1; clear hb1
  have HO1 := Lib.hid o1; clear o1
  clear hcE
  go_wp2_with fail
  go_ret2
  exact ⟨rfl, h1, HB1.out, HO1.out⟩

/-- What Close puts behind the data. -/
def dotend (st : Nat) : List UInt8 := if st = 1 then [46, 13, 10] else [13, 10, 46, 13, 10]

theorem dclose (h : Inv w c s) {D : Nat} {st : Nat} (hd : s.dot = ptr D) (hb : Blk w D #[ptr c.TC, .int .i64 st] 226) (hst : st = 0 ∨ st = 1 ∨ st = 3) (hl : s.pnd.length < 4000) (hm : s.snt.length ≤ 50000) :
    Calls Tryz.prog 166 #[ptr D] w fun e w' => e = .returned .nilIface ∧ ∃ v', Inv w' c { s with sv := v', snt := s.snt ++ (s.pnd ++ dotend st), pnd := [], dot := .pointer none } ∧ Step c w s.sv w' v' := by
  have hcT := h.tc.cell
  have hfT := h.tc.free
  rw [hd] at hcT
  have hcD := hb.cell
  have nDT : D ≠ c.TC := Blk.ne hb h.tc (by decide)
  have oS : Only (fun k => k = c.TC) w (w.setCell ⟨c.TC, 3, none⟩ (.pointer none)) := (Only.refl _ _).setCell _ _ (fun _ => rfl)
  have hI := h.dotted oS (.pointer none) (by simpa [hd] using h.tc.set 3 (.pointer none))
  have hcT2 := hI.tc.cell
  have hbD2 : Blk (w.setCell ⟨c.TC, 3, none⟩ (.pointer none)) D #[ptr c.TC, .int .i64 st] 226 := hb.other nDT _
  have hcD2 := hbD2.cell
  have HS := Lib.hid oS; clear oS
  have HI := Lib.hid hI; clear hI
  clear hbD2 hb
  have fin : ∀ (w3 : World) (v3 : Value) (t : List UInt8), Inv w3 c { s with sv := v3, snt := s.snt ++ t, pnd := [], dot := .pointer none } → Only (fun k => k = c.BW ∨ k = c.WB ∨ k = c.TC) w w3 → True := fun _ _ _ _ _ => trivial
  clear fin
  have heq : (binOp .eql 174 (ptr D) (ptr D)).run Tryz.prog w = .ok (.bool true) w := by
    obtain ⟨j, hj⟩ : ∃ j, Tryz.prog.info? 226 = some j := Option.isSome_iff_exists.1 (by kernel_rfl)
    exact run_eql_ptr_same w (tp := 174) (te := 226) ⟨D, 0, none⟩ Tryz.underlying174 hj
  rcases hst with rfl | rfl | rfl
  · rw [show ((0:Nat) : Int) = 0 from rfl] at hcD hcD2
    go_enter Tryz.func166, Tryz.ntmps166
    go_wp2_with fail
    refine (wbyte HI.out (by simp; omega) 13).mono ?_
    rintro e w1 ⟨rfl, h1, o1⟩
    have HO1 := Lib.hid o1; clear o1
    clear hcT hcT2 hcD hcD2
    go_wp2_with fail
    refine (wbyte h1 (by simp; omega) 10).mono ?_
    rintro e w2 ⟨rfl, h2, o2⟩
    have HO2 := Lib.hid o2; clear o2
    go_wp2_with fail
    refine (wstr h2 [46, 13, 10] (by simp; omega)).mono ?_
    rintro e w3 ⟨rfl, h3, o3⟩
    have HO3 := Lib.hid o3; clear o3
    go_wp2_with fail
    refine (flush h3 (by simp) (by simp; omega)).mono ?_
    rintro e w4 ⟨rfl, v4, h4, s4⟩
    have HS4 := Lib.hid s4; clear s4
    go_wp2_with fail
    go_ret
    have oo := ((HO1.out.trans HO2.out).trans HO3.out)
    refine ⟨rfl, v4, by simpa [dotend] using h4, ?_⟩
    exact Step.mono_left HS.out (fun k hk => .inl (by subst hk; simp [Ids.all])) (Step.mono_left oo (fun k hk => .inl (by rcases hk with rfl | rfl <;> simp [Ids.all])) HS4.out)
  · rw [show ((1:Nat) : Int) = 1 from rfl] at hcD hcD2
    go_enter Tryz.func166, Tryz.ntmps166
    go_wp2_with fail
    clear hcT hcT2 hcD hcD2
    refine (wstr HI.out [46, 13, 10] (by simp; omega)).mono ?_
    rintro e w3 ⟨rfl, h3, o3⟩
    have HO3 := Lib.hid o3; clear o3
    go_wp2_with fail
    refine (flush h3 (by simp) (by simp; omega)).mono ?_
    rintro e w4 ⟨rfl, v4, h4, s4⟩
    have HS4 := Lib.hid s4; clear s4
    go_wp2_with fail
    go_ret
    refine ⟨rfl, v4, by simpa [dotend] using h4, ?_⟩
    exact Step.mono_left HS.out (fun k hk => .inl (by subst hk; simp [Ids.all])) (Step.mono_left HO3.out (fun k hk => .inl (by rcases hk with rfl | rfl <;> simp [Ids.all])) HS4.out)
  · rw [show ((3:Nat) : Int) = 3 from rfl] at hcD hcD2
    go_enter Tryz.func166, Tryz.ntmps166
    go_wp2_with fail
    refine (wbyte HI.out (by simp; omega) 13).mono ?_
    rintro e w1 ⟨rfl, h1, o1⟩
    have HO1 := Lib.hid o1; clear o1
    clear hcT hcT2 hcD hcD2
    go_wp2_with fail
    refine (wbyte h1 (by simp; omega) 10).mono ?_
    rintro e w2 ⟨rfl, h2, o2⟩
    have HO2 := Lib.hid o2; clear o2
    go_wp2_with fail
    refine (wstr h2 [46, 13, 10] (by simp; omega)).mono ?_
    rintro e w3 ⟨rfl, h3, o3⟩
    have HO3 := Lib.hid o3; clear o3
    go_wp2_with fail
    refine (flush h3 (by simp) (by simp; omega)).mono ?_
    rintro e w4 ⟨rfl, v4, h4, s4⟩
    have HS4 := Lib.hid s4; clear s4
    go_wp2_with fail
    go_ret
    have oo := ((HO1.out.trans HO2.out).trans HO3.out)
    refine ⟨rfl, v4, by simpa [dotend] using h4, ?_⟩
    exact Step.mono_left HS.out (fun k hk => .inl (by subst hk; simp [Ids.all])) (Step.mono_left oo (fun k hk => .inl (by rcases hk with rfl | rfl <;> simp [Ids.all])) HS4.out)
end Go.Proofs.YtejckkeahmpcmaaGreatDoor
