/- The dot writer's Write. No statement of the seat is proved here. -/
import Derived.Test.YtejckkeahmpcmaaGreatDoorDot
namespace Go.Proofs.YtejckkeahmpcmaaGreatDoor
open Go.RowKit
set_option linter.unusedVariables false
set_option maxHeartbeats 1000000

variable {w : World} {c : Ids} {s : St}

/-- What one byte puts out. -/
def dotout (st : Nat) (b : UInt8) : List UInt8 := (if st ≤ 1 ∧ b = 46 then [46] else []) ++ (if b = 10 then [13, 10] else [b])
def dotnext (b : UInt8) : Nat := if b = 10 then 1 else 3
def dots : Nat → List UInt8 → List UInt8
  | _, [] => []
  | st, b :: r => dotout st b ++ dots (dotnext b) r
def dotst : Nat → List UInt8 → Nat
  | st, [] => st
  | _, b :: r => dotst (dotnext b) r

theorem dots_push (l : List UInt8) : ∀ (st : Nat) (b : UInt8), dots st (l ++ [b]) = dots st l ++ dotout (dotst st l) b := by
  induction l with
  | nil => intro st b; simp [dots, dotst]
  | cons a r ih => intro st b; simp [dots, dotst, ih]
theorem dotst_push (l : List UInt8) : ∀ (st : Nat) (b : UInt8), dotst st (l ++ [b]) = dotnext b := by
  induction l with
  | nil => intro st b; simp [dotst]
  | cons a r ih => intro st b; simp [dotst, ih]
theorem dots_len (l : List UInt8) : ∀ (st : Nat), (dots st l).length ≤ 2 * l.length := by
  induction l with
  | nil => intro st; simp [dots]
  | cons a r ih =>
    intro st
    have := ih (dotnext a)
    simp only [dots, dotout, List.length_append, List.length_cons]
    have h1 : (if st ≤ 1 ∧ a = 46 then [(46 : UInt8)] else []).length + (if a = 10 then [(13 : UInt8), 10] else [a]).length ≤ 2 := by
      by_cases h1 : a = 10
      · subst h1; simp
      · split <;> simp
    omega
theorem dotst_of (l : List UInt8) : ∀ (st : Nat), (st = 0 ∨ st = 1 ∨ st = 3) → dotst st l = 0 ∨ dotst st l = 1 ∨ dotst st l = 3 := by
  induction l with
  | nil => intro st h; exact h
  | cons a r ih => intro st h; refine ih _ ?_; unfold dotnext; split <;> simp

theorem ne_byte {b v : UInt8} (h : b ≠ v) : ((b.toNat : Int) == (v.toNat : Int)) = false := by
  rw [beq_eq_false_iff_ne]; intro e; exact h (UInt8.toNat_inj.mp (by omega))
theorem ten : (((10 : UInt8).toNat : Nat) : Int) = 10 := rfl
theorem six : (((46 : UInt8).toNat : Nat) : Int) = 46 := rfl

theorem dset (h : Inv w c s) {D : Nat} {cs : Array Value} (hb : Blk w D cs 226) (v : Value) : Inv (w.setCell ⟨D, 1, none⟩ v) c s :=
  h.only ((Only.refl (fun k => k = D) w).setCell _ _ (fun _ => rfl)) (fun k hk => by subst hk; exact h.may_not hb (by decide))

abbrev Dw (c : Ids) (D : Nat) : Nat → Prop := fun k => k = c.BW ∨ k = c.WB ∨ k = D
theorem dwrite (h : Inv w c s) {D : Nat} (hb : Blk w D #[ptr c.TC, .int .i64 0] 226) (g cap : Nat) (l : List UInt8) (hrow : ∀ j, j < l.length → w.cell? ⟨g, j, none⟩ = some (.int .u8 (l.getD j 0).toNat))
    (hg : g < w.heap.size) (hgD : ¬ Dw c D g) (hl : s.pnd.length + 2 * l.length < 4000) (h13 : (13 : UInt8) ∉ l) :
    Calls Tryz.prog 239 #[ptr D, .slice (some ⟨g, 0, none⟩) l.length cap] w fun e w' => e = .returned (.tuple #[.int .i64 l.length, .nilIface]) ∧ Inv w' c { s with pnd := s.pnd ++ dots 0 l } ∧
      Blk w' D #[ptr c.TC, .int .i64 (dotst 0 l)] 226 ∧ Only (Dw c D) w w' := by
  have hcT := h.tc.cell
  have hcD := hb.cell
  have nD : D ≠ c.BW := Blk.ne hb h.bw (by decide)
  have nD2 : D ≠ c.WB := by obtain ⟨C, hwb, _⟩ := h.wb; exact Blk.ne hb hwb (by decide)
  have HR := Lib.hid hrow; clear hrow
  have H13 := Lib.hid h13; clear h13
  have HG := Lib.hid hgD; clear hgD
  go_enter Tryz.func239, Tryz.ntmps239
  go_wp2_with fail
  clear hcT hcD
  go_loopw [4, 5] (fun n e wr => ∃ k : Nat, k ≤ l.length ∧ n = .int .i64 k ∧ e = .nilIface ∧ Inv wr c { s with pnd := s.pnd ++ dots 0 (l.take k) } ∧ Blk wr D #[ptr c.TC, .int .i64 (dotst 0 (l.take k))] 226 ∧ Only (Dw c D) w wr) (fun n e wr => l.length - (intOf n).toNat)
  case atStart => exact ⟨0, Nat.zero_le _, rfl, rfl, by simpa [dots] using h, by simpa [dotst] using hb, Only.refl _ _⟩
  case round =>
    obtain ⟨k, hk, rfl, rfl, hI, hB, hO⟩ := hrel
    by_cases hlt : k < l.length
    · have hcell : wr.cell? ⟨g, k, none⟩ = some (.int .u8 (l[k]'hlt).toNat) := by
        rw [hO.cell (p := ⟨g, k, none⟩) hg HG.out, HR.out k hlt]; simp [List.getD, hlt]
      have hlen : (s.pnd ++ dots 0 (l.take k)).length + 2 < 4096 := by have := dots_len (l.take k) 0; simp at this ⊢; omega
      have hd1 : dots 0 (l.take (k + 1)) = dots 0 (l.take k) ++ dotout (dotst 0 (l.take k)) (l[k]'hlt) := by rw [List.take_succ_eq_append_getElem hlt, dots_push]
      have hd2 : dotst 0 (l.take (k + 1)) = dotnext (l[k]'hlt) := by rw [List.take_succ_eq_append_getElem hlt, dotst_push]
      have hb13 : l[k]'hlt ≠ 13 := fun e => H13.out (e ▸ List.getElem_mem hlt)
      generalize hbb : l[k]'hlt = b at hcell hd1 hd2 hb13
      have hst := dotst_of (l.take k) 0 (.inl rfl)
      generalize hss : dotst 0 (l.take k) = st at hst hB hd1
      generalize hpp : s.pnd ++ dots 0 (l.take k) = pp at hI hlen
      have e13 : ((b.toNat : Int) == 13) = false := ne_byte hb13
      clear hbb hss hb13
      have HPP := Lib.hid hpp; clear hpp
      have HD1 := Lib.hid hd1; clear hd1
      have HD2 := Lib.hid hd2; clear hd2
      have HO := Lib.hid hO; clear hO
      have fin : ∀ (w2 : World) (q : List UInt8) (n2 : Nat), Inv w2 c { s with pnd := pp ++ q } → q = dotout st b → n2 = dotnext b → Blk w2 D #[ptr c.TC, .int .i64 n2] 226 → Only (Dw c D) wr w2 →
          ∃ j : Nat, j ≤ l.length ∧ Value.int .i64 ((k : Int) + 1) = .int .i64 j ∧ Inv w2 c { s with pnd := s.pnd ++ dots 0 (l.take j) } ∧ Blk w2 D #[ptr c.TC, .int .i64 (dotst 0 (l.take j))] 226 ∧ Only (Dw c D) w w2 := by
        intro w2 q n2 g1 g2 g3 g4 g5
        refine ⟨k + 1, by omega, by simp, ?_, ?_, HO.out.trans g5⟩
        · rw [HD1.out, ← List.append_assoc, HPP.out, ← g2]; exact g1
        · rw [HD2.out, ← g3]; exact g4
      have FIN := Lib.hid fin; clear fin
      have hcD := hB.cell
      have hfD := hB.free
      have HB := Lib.hid hB; clear hB
      by_cases h10 : b = 10
      · subst h10
        rw [show ((((10:UInt8)).toNat : Nat) : Int) = 10 from rfl] at hcell
        clear e13
        rcases hst with rfl | rfl | rfl
        · rw [show ((0:Nat) : Int) = 0 from rfl] at hcD
          go_wp2_with fail
          have hJ1 := (dset hI HB.out (.int .i64 3))
          refine (wbyte hJ1 (by simp; omega) 13).mono ?_
          rintro e w1 ⟨rfl, hI1, o1⟩
          have oo1 : Only (Dw c D) wr w1 := Only.trans (Only.setCell (Only.refl _ _) ⟨D, 1, none⟩ (.int .i64 3) (fun _ => .inr (.inr rfl))) (o1.mono (fun x hx => hx.elim .inl (fun y => .inr (.inl y))))
          have hB1 := o1.blk (Blk.set HB.out 1 (.int .i64 3)) (fun x => x.elim nD nD2)
          have hcD1 := hB1.cell
          have hfD1 := hB1.free
          have HO1 := Lib.hid oo1; clear oo1 o1
          have HB1 := Lib.hid hB1; clear hB1 hJ1
          go_wp2_with fail
          have hJ2 := (dset hI1 HB1.out (.int .i64 1))
          refine (wbyte hJ2 (by simp; omega) 10).mono ?_
          rintro e w2 ⟨rfl, hI2, o2⟩
          have oo2 : Only (Dw c D) wr w2 := Only.trans (Only.setCell HO1.out ⟨D, 1, none⟩ (.int .i64 1) (fun _ => .inr (.inr rfl))) (o2.mono (fun x hx => hx.elim .inl (fun y => .inr (.inl y))))
          have hB2 := o2.blk (Blk.set HB1.out 1 (.int .i64 1)) (fun x => x.elim nD nD2)
          have hcD2 := hB2.cell
          have hfD2 := hB2.free
          have HO2 := Lib.hid oo2; clear oo2 o2
          have HB2 := Lib.hid hB2; clear hB2 hJ2
          go_wp2_with fail
          go_roundw
          case measure => simp [intOf]; omega
          case rel =>
            obtain ⟨j, a1, a2, a3, a4, a5⟩ := FIN.out _ [13, 10] 1 (by simpa using hI2) (by simp [dotout]) (by simp [dotnext]) (by simpa using HB2.out) HO2.out
            exact ⟨j, a1, a2, rfl, a3, a4, a5⟩
        · rw [show ((1:Nat) : Int) = 1 from rfl] at hcD
          go_wp2_with fail
          have hJ1 := (dset hI HB.out (.int .i64 3))
          refine (wbyte hJ1 (by simp; omega) 13).mono ?_
          rintro e w1 ⟨rfl, hI1, o1⟩
          have oo1 : Only (Dw c D) wr w1 := Only.trans (Only.setCell (Only.refl _ _) ⟨D, 1, none⟩ (.int .i64 3) (fun _ => .inr (.inr rfl))) (o1.mono (fun x hx => hx.elim .inl (fun y => .inr (.inl y))))
          have hB1 := o1.blk (Blk.set HB.out 1 (.int .i64 3)) (fun x => x.elim nD nD2)
          have hcD1 := hB1.cell
          have hfD1 := hB1.free
          have HO1 := Lib.hid oo1; clear oo1 o1
          have HB1 := Lib.hid hB1; clear hB1 hJ1
          go_wp2_with fail
          have hJ2 := (dset hI1 HB1.out (.int .i64 1))
          refine (wbyte hJ2 (by simp; omega) 10).mono ?_
          rintro e w2 ⟨rfl, hI2, o2⟩
          have oo2 : Only (Dw c D) wr w2 := Only.trans (Only.setCell HO1.out ⟨D, 1, none⟩ (.int .i64 1) (fun _ => .inr (.inr rfl))) (o2.mono (fun x hx => hx.elim .inl (fun y => .inr (.inl y))))
          have hB2 := o2.blk (Blk.set HB1.out 1 (.int .i64 1)) (fun x => x.elim nD nD2)
          have hcD2 := hB2.cell
          have hfD2 := hB2.free
          have HO2 := Lib.hid oo2; clear oo2 o2
          have HB2 := Lib.hid hB2; clear hB2 hJ2
          go_wp2_with fail
          go_roundw
          case measure => simp [intOf]; omega
          case rel =>
            obtain ⟨j, a1, a2, a3, a4, a5⟩ := FIN.out _ [13, 10] 1 (by simpa using hI2) (by simp [dotout]) (by simp [dotnext]) (by simpa using HB2.out) HO2.out
            exact ⟨j, a1, a2, rfl, a3, a4, a5⟩
        · rw [show ((3:Nat) : Int) = 3 from rfl] at hcD
          go_wp2_with fail
          have hJ1 := hI
          refine (wbyte hJ1 (by simp; omega) 13).mono ?_
          rintro e w1 ⟨rfl, hI1, o1⟩
          have oo1 : Only (Dw c D) wr w1 := Only.trans (Only.refl _ _) (o1.mono (fun x hx => hx.elim .inl (fun y => .inr (.inl y))))
          have hB1 := o1.blk HB.out (fun x => x.elim nD nD2)
          have hcD1 := hB1.cell
          have hfD1 := hB1.free
          have HO1 := Lib.hid oo1; clear oo1 o1
          have HB1 := Lib.hid hB1; clear hB1 hJ1
          go_wp2_with fail
          have hJ2 := (dset hI1 HB1.out (.int .i64 1))
          refine (wbyte hJ2 (by simp; omega) 10).mono ?_
          rintro e w2 ⟨rfl, hI2, o2⟩
          have oo2 : Only (Dw c D) wr w2 := Only.trans (Only.setCell HO1.out ⟨D, 1, none⟩ (.int .i64 1) (fun _ => .inr (.inr rfl))) (o2.mono (fun x hx => hx.elim .inl (fun y => .inr (.inl y))))
          have hB2 := o2.blk (Blk.set HB1.out 1 (.int .i64 1)) (fun x => x.elim nD nD2)
          have hcD2 := hB2.cell
          have hfD2 := hB2.free
          have HO2 := Lib.hid oo2; clear oo2 o2
          have HB2 := Lib.hid hB2; clear hB2 hJ2
          go_wp2_with fail
          go_roundw
          case measure => simp [intOf]; omega
          case rel =>
            obtain ⟨j, a1, a2, a3, a4, a5⟩ := FIN.out _ [13, 10] 1 (by simpa using hI2) (by simp [dotout]) (by simp [dotnext]) (by simpa using HB2.out) HO2.out
            exact ⟨j, a1, a2, rfl, a3, a4, a5⟩
      · by_cases h46 : b = 46
        · subst h46; clear h10
          rw [show ((((46:UInt8)).toNat : Nat) : Int) = 46 from rfl] at hcell
          clear e13
          rcases hst with rfl | rfl | rfl
          · rw [show ((0:Nat) : Int) = 0 from rfl] at hcD
            go_wp2_with fail
            have hJ1 := (dset hI HB.out (.int .i64 3))
            refine (wbyte hJ1 (by simp; omega) 46).mono ?_
            rintro e w1 ⟨rfl, hI1, o1⟩
            have oo1 : Only (Dw c D) wr w1 := Only.trans (Only.setCell (Only.refl _ _) ⟨D, 1, none⟩ (.int .i64 3) (fun _ => .inr (.inr rfl))) (o1.mono (fun x hx => hx.elim .inl (fun y => .inr (.inl y))))
            have hB1 := o1.blk (Blk.set HB.out 1 (.int .i64 3)) (fun x => x.elim nD nD2)
            have hcD1 := hB1.cell
            have hfD1 := hB1.free
            have HO1 := Lib.hid oo1; clear oo1 o1
            have HB1 := Lib.hid hB1; clear hB1 hJ1
            go_wp2_with fail
            have hJ2 := hI1
            refine (wbyte hJ2 (by simp; omega) 46).mono ?_
            rintro e w2 ⟨rfl, hI2, o2⟩
            have oo2 : Only (Dw c D) wr w2 := Only.trans HO1.out (o2.mono (fun x hx => hx.elim .inl (fun y => .inr (.inl y))))
            have hB2 := o2.blk HB1.out (fun x => x.elim nD nD2)
            have hcD2 := hB2.cell
            have hfD2 := hB2.free
            have HO2 := Lib.hid oo2; clear oo2 o2
            have HB2 := Lib.hid hB2; clear hB2 hJ2
            go_wp2_with fail
            go_roundw
            case measure => simp [intOf]; omega
            case rel =>
              obtain ⟨j, a1, a2, a3, a4, a5⟩ := FIN.out _ [46, 46] 3 (by simpa using hI2) (by simp [dotout]) (by simp [dotnext]) (by simpa using HB2.out) HO2.out
              exact ⟨j, a1, a2, rfl, a3, a4, a5⟩
          · rw [show ((1:Nat) : Int) = 1 from rfl] at hcD
            go_wp2_with fail
            have hJ1 := (dset hI HB.out (.int .i64 3))
            refine (wbyte hJ1 (by simp; omega) 46).mono ?_
            rintro e w1 ⟨rfl, hI1, o1⟩
            have oo1 : Only (Dw c D) wr w1 := Only.trans (Only.setCell (Only.refl _ _) ⟨D, 1, none⟩ (.int .i64 3) (fun _ => .inr (.inr rfl))) (o1.mono (fun x hx => hx.elim .inl (fun y => .inr (.inl y))))
            have hB1 := o1.blk (Blk.set HB.out 1 (.int .i64 3)) (fun x => x.elim nD nD2)
            have hcD1 := hB1.cell
            have hfD1 := hB1.free
            have HO1 := Lib.hid oo1; clear oo1 o1
            have HB1 := Lib.hid hB1; clear hB1 hJ1
            go_wp2_with fail
            have hJ2 := hI1
            refine (wbyte hJ2 (by simp; omega) 46).mono ?_
            rintro e w2 ⟨rfl, hI2, o2⟩
            have oo2 : Only (Dw c D) wr w2 := Only.trans HO1.out (o2.mono (fun x hx => hx.elim .inl (fun y => .inr (.inl y))))
            have hB2 := o2.blk HB1.out (fun x => x.elim nD nD2)
            have hcD2 := hB2.cell
            have hfD2 := hB2.free
            have HO2 := Lib.hid oo2; clear oo2 o2
            have HB2 := Lib.hid hB2; clear hB2 hJ2
            go_wp2_with fail
            go_roundw
            case measure => simp [intOf]; omega
            case rel =>
              obtain ⟨j, a1, a2, a3, a4, a5⟩ := FIN.out _ [46, 46] 3 (by simpa using hI2) (by simp [dotout]) (by simp [dotnext]) (by simpa using HB2.out) HO2.out
              exact ⟨j, a1, a2, rfl, a3, a4, a5⟩
          · rw [show ((3:Nat) : Int) = 3 from rfl] at hcD
            go_wp2_with fail
            have hJ1 := hI
            refine (wbyte hJ1 (by simp; omega) 46).mono ?_
            rintro e w1 ⟨rfl, hI1, o1⟩
            have oo1 : Only (Dw c D) wr w1 := Only.trans (Only.refl _ _) (o1.mono (fun x hx => hx.elim .inl (fun y => .inr (.inl y))))
            have hB1 := o1.blk HB.out (fun x => x.elim nD nD2)
            have hcD1 := hB1.cell
            have hfD1 := hB1.free
            have HO1 := Lib.hid oo1; clear oo1 o1
            have HB1 := Lib.hid hB1; clear hB1 hJ1
            go_wp2_with fail
            go_roundw
            case measure => simp [intOf]; omega
            case rel =>
              obtain ⟨j, a1, a2, a3, a4, a5⟩ := FIN.out _ [46] 3 (by simpa using hI1) (by simp [dotout]) (by simp [dotnext]) (by simpa using HB1.out) HO1.out
              exact ⟨j, a1, a2, rfl, a3, a4, a5⟩
        · skip
          have e10 := ne_byte h10
          have e46 := ne_byte h46
          simp only [ten, six] at e10 e46
          have H10 := Lib.hid h10; have H46 := Lib.hid h46; clear h10 h46
          rcases hst with rfl | rfl | rfl
          · rw [show ((0:Nat) : Int) = 0 from rfl] at hcD
            go_wp2_with fail
            have hJ1 := (dset hI HB.out (.int .i64 3))
            refine (wbyte hJ1 (by simp; omega) b).mono ?_
            rintro e w1 ⟨rfl, hI1, o1⟩
            have oo1 : Only (Dw c D) wr w1 := Only.trans (Only.setCell (Only.refl _ _) ⟨D, 1, none⟩ (.int .i64 3) (fun _ => .inr (.inr rfl))) (o1.mono (fun x hx => hx.elim .inl (fun y => .inr (.inl y))))
            have hB1 := o1.blk (Blk.set HB.out 1 (.int .i64 3)) (fun x => x.elim nD nD2)
            have hcD1 := hB1.cell
            have hfD1 := hB1.free
            have HO1 := Lib.hid oo1; clear oo1 o1
            have HB1 := Lib.hid hB1; clear hB1 hJ1
            go_wp2_with fail
            go_roundw
            case measure => simp [intOf]; omega
            case rel =>
              obtain ⟨j, a1, a2, a3, a4, a5⟩ := FIN.out _ [b] 3 (by simpa using hI1) (by simp [dotout, H10.out, H46.out]) (by simp [dotnext, H10.out]) (by simpa using HB1.out) HO1.out
              exact ⟨j, a1, a2, rfl, a3, a4, a5⟩
          · rw [show ((1:Nat) : Int) = 1 from rfl] at hcD
            go_wp2_with fail
            have hJ1 := (dset hI HB.out (.int .i64 3))
            refine (wbyte hJ1 (by simp; omega) b).mono ?_
            rintro e w1 ⟨rfl, hI1, o1⟩
            have oo1 : Only (Dw c D) wr w1 := Only.trans (Only.setCell (Only.refl _ _) ⟨D, 1, none⟩ (.int .i64 3) (fun _ => .inr (.inr rfl))) (o1.mono (fun x hx => hx.elim .inl (fun y => .inr (.inl y))))
            have hB1 := o1.blk (Blk.set HB.out 1 (.int .i64 3)) (fun x => x.elim nD nD2)
            have hcD1 := hB1.cell
            have hfD1 := hB1.free
            have HO1 := Lib.hid oo1; clear oo1 o1
            have HB1 := Lib.hid hB1; clear hB1 hJ1
            go_wp2_with fail
            go_roundw
            case measure => simp [intOf]; omega
            case rel =>
              obtain ⟨j, a1, a2, a3, a4, a5⟩ := FIN.out _ [b] 3 (by simpa using hI1) (by simp [dotout, H10.out, H46.out]) (by simp [dotnext, H10.out]) (by simpa using HB1.out) HO1.out
              exact ⟨j, a1, a2, rfl, a3, a4, a5⟩
          · rw [show ((3:Nat) : Int) = 3 from rfl] at hcD
            go_wp2_with fail
            have hJ1 := hI
            refine (wbyte hJ1 (by simp; omega) b).mono ?_
            rintro e w1 ⟨rfl, hI1, o1⟩
            have oo1 : Only (Dw c D) wr w1 := Only.trans (Only.refl _ _) (o1.mono (fun x hx => hx.elim .inl (fun y => .inr (.inl y))))
            have hB1 := o1.blk HB.out (fun x => x.elim nD nD2)
            have hcD1 := hB1.cell
            have hfD1 := hB1.free
            have HO1 := Lib.hid oo1; clear oo1 o1
            have HB1 := Lib.hid hB1; clear hB1 hJ1
            go_wp2_with fail
            go_roundw
            case measure => simp [intOf]; omega
            case rel =>
              obtain ⟨j, a1, a2, a3, a4, a5⟩ := FIN.out _ [b] 3 (by simpa using hI1) (by simp [dotout, H10.out, H46.out]) (by simp [dotnext, H10.out]) (by simpa using HB1.out) HO1.out
              exact ⟨j, a1, a2, rfl, a3, a4, a5⟩
    · obtain rfl : k = l.length := by omega
      go_wp2_with fail
      go_ret2
      refine ⟨rfl, ?_, ?_, hO⟩
      · simpa using hI
      · simpa using hB
end Go.Proofs.YtejckkeahmpcmaaGreatDoor
