/- The law FnDataSent itself: the walk. No statement of the seat is proved here. -/
import Derived.Test.YtejckkeahmpcmaaGreatDoorCalled
import Derived.Test.YtejckkeahmpcmaaGreatDoorPlain
import Derived.Test.YtejckkeahmpcmaaGreatDoorSame
namespace Go.Proofs.YtejckkeahmpcmaaGreatDoor
open Go.RowKit
set_option linter.unusedVariables false
set_option maxHeartbeats 4000000

theorem crl_len (l : List UInt8) : (crl l).length ≤ 2 * l.length := by
  induction l with
  | nil => simp [crl]
  | cons b r ih => simp only [crl, List.length_append, List.length_cons]; split <;> simp <;> omega

theorem told_cells {w : World} {B cap : Nat} {v : Option Addr} (h : w.ownsRow B 36 9 (.slice v 3 cap) 3 told3) : ∃ a, v = some ⟨a, 0, none⟩ ∧ a < w.heap.size ∧ ∀ i, i < 27 → w.cell? ⟨a, i, none⟩ = told3[i]? := by
  obtain ⟨h1, h2⟩ := h
  rcases h2 with ⟨_, h3⟩ | ⟨g, c, cur, hv, hg, hh, hn, hm, hc, ht⟩
  · cases h3
  · obtain ⟨rfl, rfl⟩ : v = some ⟨g, 0, none⟩ ∧ cap = c := by injection hv with h5 h6 h7; exact ⟨h5, h7⟩
    refine ⟨g, rfl, lt_of_block hh, fun i hi => ?_⟩
    have hb : Blk w g cur 36 := hh
    rw [hb.cell, ← ht, List.getElem?_take, if_pos (by omega)]
    simp

def lead : List UInt8 := [69, 72, 76, 79, 32, 108, 111, 99, 97, 108, 104, 111, 115, 116, 13, 10, 77, 65, 73, 76, 32, 70, 82, 79, 77, 58, 60, 97, 64, 98, 62, 13, 10, 82, 67, 80, 84, 32, 84, 79, 58, 60, 99, 64, 100, 62, 13, 10, 68, 65, 84, 65, 13, 10]
theorem lead_length : lead.length = 54 := rfl
theorem sent_lead (l : List UInt8) : sentAll l = lead ++ (dots 0 l ++ dotend (dotst 0 l)) := by simp [sentAll, lead, lMail, lRcpt, lData]
theorem sent_head (l : List UInt8) : (⟨(sentAll l).toArray⟩ : ByteArray).extract 0 54 = ⟨lead.toArray⟩ := by rw [sent_lead]; exact ex_head _ _ _ rfl
theorem sent_tail (l : List UInt8) : (⟨(sentAll l).toArray⟩ : ByteArray).extract 54 (sentAll l).length = ⟨(dots 0 l ++ dotend (dotst 0 l)).toArray⟩ := by rw [sent_lead]; exact ex_tail _ _ _ _ rfl rfl
theorem sent_len (l : List UInt8) (hl : l.length ≤ 500) : 54 ≤ (sentAll l).length ∧ (sentAll l).length ≤ 2000 := by
  have h1 := dots_len l 0
  have h2 : (dotend (dotst 0 l)).length ≤ 5 := by unfold dotend; split <;> simp
  rw [sent_lead, List.length_append, lead_length, List.length_append]; omega

abbrev told27 : Array Value := #[.int .i64 0, .int .i64 0, .int .i64 0, .int .i64 0, .int .i64 0, str [], .bool false, .int .i64 0, .slice none 0 0, .int .i64 0, .int .i64 0, .int .i64 0, .int .i64 0, .int .i64 0, str [], .bool false, .int .i64 0, .slice none 0 0,
  .int .i64 0, .int .i64 0, .int .i64 0, .int .i64 0, .int .i64 0, str [120], .bool false, .int .i64 0, .slice none 0 0]
theorem told27_eq (i : Nat) : told27[i]? = told3[i]? := by simp [told27, told3, toldc]

/-- Behind the want's reckoning. -/
theorem law (w : World) (he : Eb w) (l : List UInt8) : Calls Tryz.prog 5 #[str l] w fun e w' => e = .returned (.bool true) ∧ Below w.heap.size w w' := by
  by_cases hbig : l.length > 500
  · by_cases hvast : (l.length : Int) > 2147483647
    · go_enter Tryz.func5, Tryz.ntmps5
      go_wp2_with fail
      go_ret
      exact ⟨rfl, Below.refl _ _⟩
    · have hb2 : (500 : Int) < l.length := by omega
      have hb3 : ¬ (2147483647 : Int) < l.length := by omega
      go_enter Tryz.func5, Tryz.ntmps5
      go_wp2_with fail
      go_ret
      exact ⟨rfl, Below.refl _ _⟩
  · have hb2 : ¬ (500 : Int) < l.length := by omega
    have hb3 : ¬ (2147483647 : Int) < l.length := by omega
    go_enter Tryz.func5, Tryz.ntmps5
    go_wp2_with fail
    go_loopw [21, 3] (fun i v wr => ∃ k : Nat, k ≤ l.length ∧ i = .int .i64 k ∧ v = str (crl (l.take k)) ∧ (13 : UInt8) ∉ l.take k ∧ w = wr) (fun i v wr => l.length - (intOf i).toNat)
    case atStart => exact ⟨0, Nat.zero_le _, rfl, rfl, by simp, rfl⟩
    case round =>
      obtain ⟨k, hk, rfl, rfl, h13, rfl⟩ := hrel
      by_cases hlt : k < l.length
      · have x0 := get_mk l k (l[k]'hlt) (by simp [hlt])
        have x3 : crl (l.take (k + 1)) = crl (l.take k) ++ (if l[k]'hlt = 10 then [13, 10] else [l[k]'hlt]) := by rw [List.take_succ_eq_append_getElem hlt, crl_push]
        have x4 : l.take (k + 1) = l.take k ++ [l[k]'hlt] := List.take_succ_eq_append_getElem hlt
        have x5 : (⟨l.toArray⟩ : ByteArray).extract k (k + 1) = ⟨[l[k]'hlt].toArray⟩ := by
          rw [ByteArray.extract_mk, show k + 1 - k = 1 by omega, List.drop_eq_getElem_cons hlt]; rfl
        have x6 : (crl (l.take k)).length ≤ 1000 := by have := crl_len (l.take k); simp at this; omega
        generalize l[k]'hlt = b at x0 x3 x4 x5
        have hks : (0 : Int) ≤ k ∧ (k : Int) < (l.length : Int) := by omega
        have X3 := Lib.hid x3; have X4 := Lib.hid x4; have X5 := Lib.hid x5
        have H13 := Lib.hid h13
        clear x3 x4 x5 h13
        have m1 : min (k + 1) l.length = k + 1 := by omega
        by_cases hb13 : b = 13
        · subst hb13
          go_wp2_with fail
          go_ret
          exact ⟨rfl, Below.refl _ _⟩
        · by_cases hb10 : b = 10
          · subst hb10
            go_wp2_with fail
            go_roundw
            case rel =>
              refine ⟨k + 1, by omega, by go_num, ?_, ?_, trivial⟩
              · rw [X5.out, X3.out]
                show Value.string (⟨(crl (List.take k l)).toArray⟩ ++ ⟨[13].toArray⟩ ++ ⟨[10].toArray⟩) = _
                rw [bcat, bcat]; simp
              · rw [X4.out]; simp; exact H13.out
            case measure => simp [intOf]; omega
          · have e13 := ne_byte hb13
            have e10 := ne_byte hb10
            rw [ten] at e10
            rw [show (((13 : UInt8).toNat : Nat) : Int) = 13 from rfl] at e13
            have HB13 := Lib.hid hb13; have HB10 := Lib.hid hb10
            clear hb13 hb10
            go_wp2_with fail
            go_roundw
            case rel =>
              refine ⟨k + 1, by omega, by go_num, ?_, ?_, trivial⟩
              · rw [X5.out, X3.out, bcat, if_neg HB10.out]
              · rw [X4.out]; simp; exact ⟨H13.out, fun e => HB13.out e.symm⟩
            case measure => simp [intOf]; omega
      · obtain rfl : k = l.length := by omega
        rw [List.take_length] at h13
        have H13 := Lib.hid h13; clear h13
        have ETAKE : Hid (List.take l.length l = l) := List.take_length
        by_cases hnil : l = []
        · subst hnil
          clear hb2 hb3 hk hlt hbig
          go_wp2_with fail
          have oA : Only (fun _ => False) w (w.alloc (.cells (calls3 []) 33)) := (Only.refl _ _).alloc _
          refine (called _ (he.only oA (fun f => f)) w.heap.size 3 [] (by simp) H13.out (Blk.new w _ _)).mono ?_
          rintro e w1 ⟨v, cap', rfl, hown, o1⟩
          obtain ⟨a, rfl, la, ca⟩ := told_cells hown
          have CA := Lib.hid ca
          have O1 := Lib.hid (oA.trans o1)
          clear hown ca o1 oA
          go_wp2_with fail
          have hB1 := Blk.new w1 told27 36
          have oB : Only (fun _ => False) w1 (w1.alloc (.cells told27 36)) := (Only.refl _ _).alloc _
          have sB : (w1.alloc (.cells told27 36)).heap.size = w1.heap.size + 1 := by simp
          refine (same3 (w1.alloc (.cells told27 36)) a w1.heap.size cap' 3 (fun i hi => by rw [oB.cell (p := ⟨a, i, none⟩) la (fun f => f)]; exact CA.out i hi) (fun i hi => by rw [hB1.cell]; exact told27_eq i) (by rw [sB]; omega) (by rw [sB]; omega)).mono ?_
          rintro e w2 ⟨rfl, o2⟩
          have O2 := Lib.hid (O1.out.trans (oB.trans o2))
          clear hB1 oB sB o2
          have z0 := sent_len [] (by simp)
          have z1 : ¬ ((sentAll []).length : Int) < 54 := by omega
          have z2 : (((⟨(sentAll []).toArray⟩ : ByteArray).extract 0 54).toList == lead) = true := by rw [sent_head, ByteArray.toList_mk]; exact beq_self_eq_true _
          have z3 : (54 : Int) ≤ ((sentAll []).length : Int) := by omega
          unfold lead at z2
          clear z0
          go_wp2_with fail
          rw [sent_tail]
          have z5 := sent_len [] (by simp)
          refine (undotted w2 _ _ (und_data []) (by have := z5.2; rw [sent_lead, List.length_append] at this; omega)).mono ?_
          rintro e w3 ⟨rfl, rfl⟩
          have z6 : wt false [] = [13, 10] := rfl
          have e9 : (⟨(crl []).toArray⟩ ++ ⟨#[13, 10]⟩ : ByteArray) = ⟨[13, 10].toArray⟩ := bcat _ _
          rw [z6]
          simp only [e9]
          clear z6 e9
          clear z1 z2 z3 z5
          go_wp2_with fail
          go_ret
          exact ⟨rfl, O2.out.below (Nat.le_refl _) (fun k f => f.elim)⟩
        · have hemp : l.isEmpty = false := by simpa using hnil
          have hpos : 0 < l.length := List.length_pos_iff.2 hnil
          obtain ⟨b, hb⟩ : ∃ b, l.getLast? = some b := ⟨_, List.getLast?_eq_some_getLast hnil⟩
          have hb2' : l[l.length - 1]? = some b := by rw [← List.getLast?_eq_getElem?]; exact hb
          have x0 := get_mk l (l.length - 1) b hb2'
          have hks : (0 : Int) ≤ (l.length : Int) - 1 ∧ (l.length : Int) - 1 < (l.length : Int) := by omega
          have hwt := wt_crl l false
          rw [if_neg hnil, hb] at hwt
          have HWT := Lib.hid hwt
          clear hwt hb hb2' hnil
          by_cases hb10 : b = 10
          · subst hb10
            go_wp2_with fail
            have oA : Only (fun _ => False) w (w.alloc (.cells (calls3 l) 33)) := (Only.refl _ _).alloc _
            refine (called _ (he.only oA (fun f => f)) w.heap.size 3 l (by omega) H13.out (Blk.new w _ _)).mono ?_
            rintro e w1 ⟨v, cap', rfl, hown, o1⟩
            obtain ⟨a, rfl, la, ca⟩ := told_cells hown
            have CA := Lib.hid ca
            have O1 := Lib.hid (oA.trans o1)
            clear hown ca o1 oA
            go_wp2_with fail
            have hB1 := Blk.new w1 told27 36
            have oB : Only (fun _ => False) w1 (w1.alloc (.cells told27 36)) := (Only.refl _ _).alloc _
            have sB : (w1.alloc (.cells told27 36)).heap.size = w1.heap.size + 1 := by simp
            refine (same3 (w1.alloc (.cells told27 36)) a w1.heap.size cap' 3 (fun i hi => by rw [oB.cell (p := ⟨a, i, none⟩) la (fun f => f)]; exact CA.out i hi) (fun i hi => by rw [hB1.cell]; exact told27_eq i) (by rw [sB]; omega) (by rw [sB]; omega)).mono ?_
            rintro e w2 ⟨rfl, o2⟩
            have O2 := Lib.hid (O1.out.trans (oB.trans o2))
            clear hB1 oB sB o2
            have z0 := sent_len l (by omega)
            have z1 : ¬ ((sentAll l).length : Int) < 54 := by omega
            have z2 : (((⟨(sentAll l).toArray⟩ : ByteArray).extract 0 54).toList == lead) = true := by rw [sent_head, ByteArray.toList_mk]; exact beq_self_eq_true _
            have z3 : (54 : Int) ≤ ((sentAll l).length : Int) := by omega
            unfold lead at z2
            clear z0
            go_wp2_with fail
            rw [sent_tail]
            have z5 := sent_len l (by omega)
            refine (undotted w2 _ _ (und_data l) (by have := z5.2; rw [sent_lead, List.length_append] at this; omega)).mono ?_
            rintro e w3 ⟨rfl, rfl⟩
            have z6 : wt false l = crl l := by rw [HWT.out]; simp
            rw [z6]
            clear z6
            clear z1 z2 z3 z5
            go_wp2_with fail
            go_ret
            exact ⟨rfl, O2.out.below (Nat.le_refl _) (fun k f => f.elim)⟩
          · have x6 : (crl l).length ≤ 1000 := by have := crl_len l; omega
            have x7 : (crl (List.take l.length l)).length ≤ 1000 := by rw [List.take_length]; exact x6
            have x8 : ((b.toNat : Int) != 10) = true := by
              have := ne_byte hb10
              rw [ten] at this
              simpa [bne] using this
            have HB10 := Lib.hid hb10; clear hb10
            go_wp2_with fail
            have oA : Only (fun _ => False) w (w.alloc (.cells (calls3 l) 33)) := (Only.refl _ _).alloc _
            refine (called _ (he.only oA (fun f => f)) w.heap.size 3 l (by omega) H13.out (Blk.new w _ _)).mono ?_
            rintro e w1 ⟨v, cap', rfl, hown, o1⟩
            obtain ⟨a, rfl, la, ca⟩ := told_cells hown
            have CA := Lib.hid ca
            have O1 := Lib.hid (oA.trans o1)
            clear hown ca o1 oA
            go_wp2_with fail
            have hB1 := Blk.new w1 told27 36
            have oB : Only (fun _ => False) w1 (w1.alloc (.cells told27 36)) := (Only.refl _ _).alloc _
            have sB : (w1.alloc (.cells told27 36)).heap.size = w1.heap.size + 1 := by simp
            refine (same3 (w1.alloc (.cells told27 36)) a w1.heap.size cap' 3 (fun i hi => by rw [oB.cell (p := ⟨a, i, none⟩) la (fun f => f)]; exact CA.out i hi) (fun i hi => by rw [hB1.cell]; exact told27_eq i) (by rw [sB]; omega) (by rw [sB]; omega)).mono ?_
            rintro e w2 ⟨rfl, o2⟩
            have O2 := Lib.hid (O1.out.trans (oB.trans o2))
            clear hB1 oB sB o2
            have z0 := sent_len l (by omega)
            have z1 : ¬ ((sentAll l).length : Int) < 54 := by omega
            have z2 : (((⟨(sentAll l).toArray⟩ : ByteArray).extract 0 54).toList == lead) = true := by rw [sent_head, ByteArray.toList_mk]; exact beq_self_eq_true _
            have z3 : (54 : Int) ≤ ((sentAll l).length : Int) := by omega
            unfold lead at z2
            clear z0
            go_wp2_with fail
            rw [sent_tail]
            have z5 := sent_len l (by omega)
            refine (undotted w2 _ _ (und_data l) (by have := z5.2; rw [sent_lead, List.length_append] at this; omega)).mono ?_
            rintro e w3 ⟨rfl, rfl⟩
            have z6 : wt false l = crl l ++ [13, 10] := by rw [HWT.out, if_neg (by simpa using HB10.out)]
            have e9 : (⟨(crl l).toArray⟩ ++ ⟨#[13, 10]⟩ : ByteArray) = ⟨(crl l ++ [13, 10]).toArray⟩ := bcat _ _
            rw [z6]
            simp only [e9]
            clear z6 e9
            clear z1 z2 z3 z5
            go_wp2_with fail
            go_ret
            exact ⟨rfl, O2.out.below (Nat.le_refl _) (fun k f => f.elim)⟩
end Go.Proofs.YtejckkeahmpcmaaGreatDoor
