/- A reply of one line is read. No statement of the seat is proved here. -/
import Derived.Test.YtejckkeahmpcmaaGreatDoorText
namespace Go.Proofs.YtejckkeahmpcmaaGreatDoor
open Go.RowKit
set_option linter.unusedVariables false
set_option maxHeartbeats 400000

variable {w : World} {c : Ids} {s : St}

/-- The next bytes of the server's, wherever they lie. -/
def Next (s : St) (l : List UInt8) : Prop := (s.inp = [] ∧ s.rest = l) ∨ s.inp = l

theorem inv_lines (h : Inv w c s) (he : Eb w) (l tail : List UInt8) (hl : l ≠ []) (h10 : (10 : UInt8) ∉ l) (hs : Next s (l ++ 13 :: 10 :: tail)) :
    Lines w c.BR c.RB l (fun w' => Inv w' c { s with inp := [], rest := tail } ∧ Only (May c s.sv) w w') := by
  have e1 : l ++ 13 :: 10 :: tail = (l ++ [13]) ++ 10 :: tail := by simp
  have e2 : (10 : UInt8) ∉ l ++ [13] := by simp [h10]
  have e3 : l ++ [13, 10] = (l ++ [13]) ++ [10] := by simp
  have e4 : (l ++ [13, 10]).length = (l ++ [13]).length + 1 := by simp
  refine readline w c.BR c.RB l hl _ ?_
  rw [e1] at hs
  unfold Slices
  rw [e4, e3]
  rcases hs with ⟨hi, hr⟩ | hi
  · refine (readslice h (l ++ [13]) tail hr e2 hi).mono ?_
    rintro e w' ⟨r, cap, rfl, h', o', C, hR, hC, hL, hr', hcap⟩
    have o2 : Only (May c s.sv) w w' := o'.mono (fun k hk => .inl (by subst hk; simp [Ids.all]))
    have h2 : Inv w' c { s with inp := [], rest := tail } := by rw [← hi]; exact h'
    exact ⟨r, cap, rfl, ⟨h2, o2⟩, he.only o2 (he.not h), C, hR, hC, hL, by simp at hr' ⊢; omega, by simp at hcap ⊢; omega⟩
  · refine (readslice_first h (l ++ [13]) tail hi e2).mono ?_
    rintro e w' ⟨r, cap, rfl, h', o', C, hR, hC, hL, hr', hcap⟩
    have o2 : Only (May c s.sv) w w' := o'.mono (fun k hk => .inl (by rcases hk with rfl | rfl | rfl | rfl <;> simp [Ids.all]))
    exact ⟨r, cap, rfl, ⟨h', o2⟩, he.only o2 (he.not h), C, hR, hC, hL, by simp at hr' ⊢; omega, by simp at hcap ⊢; omega⟩

/-- What parseCodeLine makes of a line. -/
def Parses (l : List UInt8) (exp code : Int) (x : List UInt8) : Prop :=
  ∀ w, Calls Tryz.prog 170 #[str l, .int .i64 exp] w fun e w' => e = .returned (.tuple #[.int .i64 code, .bool false, str x, .nilIface]) ∧ Only (fun _ => False) w w'

theorem response (h : Inv w c s) (he : Eb w) (l tail x : List UInt8) (exp code : Int) (hl : l ≠ []) (h10 : (10 : UInt8) ∉ l) (hs : Next s (l ++ 13 :: 10 :: tail)) (hp : Parses l exp code x) :
    Calls Tryz.prog 129 #[ptr c.TC, .int .i64 exp] w fun e w' => e = .returned (.tuple #[.int .i64 code, str x, .nilIface]) ∧ Inv w' c { s with inp := [], rest := tail } ∧ Only (May c s.sv) w w' := by
  have hc := h.tc.cell
  have H := Lib.hid (inv_lines h he l tail hl h10 hs)
  have HP := Lib.hid hp; clear hp
  have HL := Lib.hid hl; clear hl
  have HS := Lib.hid hs; clear hs
  go_enter Tryz.func129, Tryz.ntmps129
  go_wp2_with fail
  refine (tpline w c.TC c.BR c.RB _ _ _ l HL.out _ hc H.out).mono ?_
  rintro e w2 ⟨rfl, w1, ⟨h1, o1⟩, o2⟩
  have h2 := h1.only o2 (fun _ f => f.elim)
  have o3 := o1.trans' o2 (fun _ _ f => f.elim)
  go_wp2_with fail
  refine (show Calls Tryz.prog 170 #[str l, .int .i64 exp] w2 _ from HP.out _).mono ?_
  rintro e w3 ⟨rfl, o4⟩
  have h3 := h2.only o4 (fun _ f => f.elim)
  have o5 := o3.trans' o4 (fun _ _ f => f.elim)
  clear o1 o2 o3 o4 h1 h2
  have HO := Lib.hid o5; clear o5
  go_wp2_with fail
  refine wp_loop_rounds 1 ?_
  rw [rounds_succ]
  go_wp2_with fail
  go_ret3
  exact ⟨rfl, h3, HO.out⟩
end Go.Proofs.YtejckkeahmpcmaaGreatDoor
