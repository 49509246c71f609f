/- The client's Rcpt, at the address that the statement uses, of a server without extensions. No statement of the seat is proved here. -/
import Derived.Test.YtejckkeahmpcmaaGreatDoorMail
namespace Go.Proofs.YtejckkeahmpcmaaGreatDoor
open Go.RowKit
set_option linter.unusedVariables false
set_option maxHeartbeats 400000

variable {w : World} {c : Ids} {s : St}

/-- "RCPT TO:<c@d>" -/
def lRcpt : List UInt8 := [82, 67, 80, 84, 32, 84, 79, 58, 60, 99, 64, 100, 62]

set_option maxRecDepth 100000 in
theorem rcpt (h : Inv w c s) (he : Eb w) (hd : s.dot = .pointer none) (hpn : s.pnd = []) (hm : s.snt.length ≤ 40000) (m : Nat) (hext : s.ext = .map (some m)) (hmap : w.heap[m]? = some (.map #[] 0)) (hrc : s.rc = .slice none 0 0) (tail : List UInt8)
    (hs : Next s (l250 ++ 13 :: 10 :: tail)) :
    Calls Tryz.prog 49 #[ptr c.C, str [99, 64, 100], .pointer none] w fun e w' => e = .returned .nilIface ∧ ∃ v' rc, Inv w' c { s with inp := [], rest := tail, sv := v', snt := s.snt ++ (lRcpt ++ [13, 10]), rc := rc } ∧ Step c w s.sv w' v' := by
  obtain ⟨inp, rest, snt, pnd, sv, dot, ext, dg, dh, rc⟩ := s
  simp only at hd hpn hm hext hrc
  subst hext hrc
  have HS := Lib.hid hs; clear hs
  have HD := Lib.hid hd; clear hd
  have HN := Lib.hid hpn; clear hpn
  have HP := Lib.hid hmap; clear hmap
  go_enter Tryz.func49, Tryz.ntmps49
  go_wp2_with fail
  refine (valid w [99, 64, 100] (by unfold Plain; decide) (by simp)).mono ?_
  rintro e w2 ⟨rfl, o1⟩
  have h2 := h.only o1 (fun _ f => f.elim)
  have he2 := he.only o1 (fun f => f)
  have hm2 : w2.heap[m]? = some (.map #[] 0) := by rw [o1.block m (lt_of_block HP.out) (fun f => f)]; exact HP.out
  have HO1 := Lib.hid o1; clear o1
  have HP2 := Lib.hid hm2; clear hm2
  go_wp2_with fail
  have oA : Only (fun _ => False) w2 (w2.alloc (.cells #[.pointer none, .slice none 0 0] 130)) := (Only.refl _ _).alloc _
  refine (Tryz.Builder_Grow_fresh w2.heap.size w2.heap.size 2048 _ (Nat.le_refl _) (heap_alloc_new w2 _) (by simp) (by omega)).mono ?_
  rintro e w4 ⟨rfl, hb4, b4⟩
  have oB := oA.below_at b4 (Nat.le_refl _)
  have hsz4 : w2.heap.size ≤ w4.heap.size := oB.size
  go_wp2_with fail
  have hcat : ({ data := #[82, 67, 80, 84, 32, 84, 79, 58, 60] } ++ { data := #[99, 64, 100] } ++ { data := #[62] } : ByteArray) = ⟨lRcpt.toArray⟩ := by decide +kernel
  rw [hcat]
  clear hcat
  refine (wrote w4 w2.heap.size w2.heap.size [] ⟨lRcpt.toArray⟩ hb4 (by show 0 + 13 ≤ 140737488355328; omega) hsz4).mono ?_
  rintro e w5 ⟨rfl, hb5, b5⟩
  have oC := oB.below_at b5 (Nat.le_refl _)
  have h5 := h2.only oC (fun _ f => f.elim)
  have he5 := he2.only oC (fun f => f)
  have hc5 := h5.cl.cell
  have hm5 : w5.heap[m]? = some (.map #[] 0) := by
    have hlt : m < w2.heap.size := lt_of_block HP2.out
    rw [oC.block m hlt (fun f => f)]; exact HP2.out
  have hlk := fun k => look_none w5 m k hm5
  have HP5 := Lib.hid hm5; clear hm5
  have HB5 := Lib.hid hb5; clear hb5
  have HO := Lib.hid oC; clear oA oB oC b4 b5 hb4
  go_wp2_with fail
  have hI : Lib.IsBuilder 130 5 w2.heap.size w2.heap.size (Lib.byteCells lRcpt) w5 := .inr HB5.out
  refine (Tryz.Builder_String w2.heap.size w2.heap.size lRcpt w5 hI (by simp [lRcpt])).mono ?_
  rintro e w6 ⟨rfl, b6⟩
  have oD := HO.out.below_at b6 (Nat.le_refl _)
  have h6 := h2.only oD (fun _ f => f.elim)
  have he6 := he2.only oD (fun f => f)
  have HD6 := Lib.hid oD; clear oD b6 hlk
  clear hI hc5
  go_wp2_with fail
  refine (asks h6 he6 HD.out HN.out lRcpt (by simp [lRcpt]) (by simp [lRcpt]; omega) l250 tail [120] 25 250 (by simp [l250]) (by simp [l250]) HS.out parse250_25).mono ?_
  rintro e w7 ⟨rfl, v7, h7, s7⟩
  have hc7 := h7.cl.cell
  have hf7 := h7.cl.free
  have hlt7 : c.C < w7.heap.size := h7.all_lt c.C (by simp [Ids.all])
  have hne7 : ¬ c.C = w7.heap.size := by omega
  have hne8 : ¬ c.C = w7.heap.size + 1 := by omega
  have H7 := Lib.hid h7; clear h7
  have S7 := Lib.hid s7; clear s7
  go_wp2_with fail
  go_ret
  have oS : ∀ v, Only (fun k => k = c.C) w7 (w7.setCell ⟨c.C, 9, none⟩ v) := fun v => (Only.refl _ _).setCell _ _ (fun _ => rfl)
  generalize hV : (Value.slice (some ⟨w7.heap.size + 1, 0, none⟩) 1 ((Question.appendCap 1 0 9).cut (w7.tape w7.drawn (Question.appendCap 1 0 9)))) = V
  have hI := H7.out.client (oS V) (.map (some m)) dg dh V (by simpa using H7.out.cl.set 9 V)
  generalize (Obj.cells (#[str [99, 64, 100]] ++ Builtin.zeroCells #[Value.string ⟨#[]⟩] ((Question.appendCap 1 0 9).cut (w7.tape w7.drawn (Question.appendCap 1 0 9)) - 1)) 9) = O2
  generalize (Obj.cells #[str [99, 64, 100]] 9) = O1
  refine ⟨rfl, v7, V, ((hI.alloc O1).alloc O2).drewN 1, ?_⟩
  have oF := (((oS V).alloc O1).alloc O2).drew
  exact (Step.mono_left HO1.out (fun _ f => f.elim) (Step.mono_left HD6.out (fun _ f => f.elim) S7.out)).then oF (fun k hk => .inl (.inl (by subst hk; simp [Ids.all])))

end Go.Proofs.YtejckkeahmpcmaaGreatDoor
