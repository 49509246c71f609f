/- The client's Mail, at the address that the statement uses, of a server without extensions. No statement of the seat is proved here. -/
import Derived.Test.YtejckkeahmpcmaaGreatDoorHello
import Derived.Test.YtejckkeahmpcmaaGreatDoorBuild
namespace Go.Proofs.YtejckkeahmpcmaaGreatDoor
open Go.RowKit
set_option linter.unusedVariables false
set_option maxHeartbeats 400000

/-- A look into a map that is empty. -/
theorem look_none (w : World) (m : Nat) (k : ByteArray) (h : w.heap[m]? = some (.map #[] 0)) :
    (Instr.lookup 87 (.map (some m)) (.string k) true).run Tryz.prog w = .ok (.tuple #[.string ⟨#[]⟩, .bool false]) w := by
  have hz := Tryz.zeroValue9 w
  have hck : ∀ (e : Bool) (n : Nat), (Instr.checkKey e (n + 1) 9 (.string k)).run Tryz.prog w = .ok () w := by
    intro e n; simp [Instr.checkKey, run_underlying Tryz.underlying9]
  have h2 : (Instr.checkKey true 10000 9 (.string k)).run Tryz.prog w = .ok () w := hck true 9999
  have hfk : (Instr.findKey 9 (.string k) []).run Tryz.prog w = .ok none w := by
    simp [Instr.findKey, Instr.findNow, run_underlying Tryz.underlying9]
  have hg : (getObj m).run Tryz.prog w = .ok (.map #[] 0) w := by simp [getObj, Sem.run, h]
  unfold Instr.lookup
  simp only [Sem.run_bind, run_underlying Tryz.underlying87, Result.andThen_ok, hg, Sem.run_pure, Array.isEmpty_empty, h2, hfk, hz, if_true]
theorem Only.below_at {S : Nat → Prop} {a b d : World} {B : Nat} (h : Only S a b) (hb : Below B b d) (hB : a.heap.size ≤ B) : Only S a d :=
  ⟨hb.os.trans h.os, hb.tape.trans h.tape, hb.output.trans h.output, Nat.le_trans h.size hb.size, fun k hk hn => (hb.block k (by omega)).trans (h.block k hk hn)⟩

variable {w : World} {c : Ids} {s : St}

def addr1 : List UInt8 := [97, 64, 98]
/-- "MAIL FROM:<a@b>" -/
def lMail : List UInt8 := [77, 65, 73, 76, 32, 70, 82, 79, 77, 58, 60, 97, 64, 98, 62]

set_option maxRecDepth 100000 in
theorem mail (h : Inv w c s) (he : Eb w) (hg : s.dg = false) (hh : s.dh = false) (hd : s.dot = .pointer none) (hpn : s.pnd = []) (hm : s.snt.length ≤ 40000) (tail : List UInt8)
    (hs : Next s (l220 ++ 13 :: 10 :: (l250 ++ 13 :: 10 :: (l250 ++ 13 :: 10 :: tail)))) :
    Calls Tryz.prog 47 #[ptr c.C, str [97, 64, 98], .pointer none] w fun e w' => e = .returned .nilIface ∧ ∃ v' m, Inv w' c { s with inp := [], rest := tail, sv := v', snt := (s.snt ++ [69, 72, 76, 79, 32, 108, 111, 99, 97, 108, 104, 111, 115, 116, 13, 10]) ++ (lMail ++ [13, 10]), ext := .map (some m), dg := true, dh := true } ∧ w'.heap[m]? = some (.map #[] 0) ∧ Step c w s.sv w' v' := by
  have HS := Lib.hid hs; clear hs
  have HD := Lib.hid hd; clear hd
  have HN := Lib.hid hpn; clear hpn
  have HG := Lib.hid hg; clear hg
  have HH := Lib.hid hh; clear hh
  go_enter Tryz.func47, Tryz.ntmps47
  go_wp2_with fail
  refine (valid w [97, 64, 98] (by unfold Plain; decide) (by simp)).mono ?_
  rintro e w1 ⟨rfl, o1⟩
  have h1 := h.only o1 (fun _ f => f.elim)
  have he1 := he.only o1 (fun f => f)
  go_wp2_with fail
  refine (hello h1 he1 HG.out HH.out HD.out HN.out (by omega) _ HS.out).mono ?_
  rintro e w2 ⟨rfl, v', m, h2, hmap, s2⟩
  have he2 := he1.step h1 s2
  have HT := Lib.hid (Step.mono_left (c := c) (v := s.sv) o1 (fun _ f => f.elim) s2); clear s2 o1
  have HP := Lib.hid hmap; clear hmap
  go_wp2_with fail
  have oA : Only (fun _ => False) w2 (w2.alloc (.cells #[.pointer none, .slice none 0 0] 130)) := (Only.refl _ _).alloc _
  refine (Tryz.Builder_Grow_fresh w2.heap.size w2.heap.size 2048 _ (Nat.le_refl _) (heap_alloc_new w2 _) (by simp) (by omega)).mono ?_
  rintro e w4 ⟨rfl, hb4, b4⟩
  have oB := oA.below_at b4 (Nat.le_refl _)
  have hsz4 : w2.heap.size ≤ w4.heap.size := oB.size
  go_wp2_with fail
  have hcat : ({ data := #[77, 65, 73, 76, 32, 70, 82, 79, 77, 58, 60] } ++ { data := #[97, 64, 98] } ++ { data := #[62] } : ByteArray) = ⟨lMail.toArray⟩ := by decide +kernel
  rw [hcat]
  clear hcat
  refine (wrote w4 w2.heap.size w2.heap.size [] ⟨lMail.toArray⟩ hb4 (by show 0 + 15 ≤ 140737488355328; omega) hsz4).mono ?_
  rintro e w5 ⟨rfl, hb5, b5⟩
  have oC := oB.below_at b5 (Nat.le_refl _)
  have h5 := h2.only oC (fun _ f => f.elim)
  have he5 := he2.only oC (fun f => f)
  have hc5 := h5.cl.cell
  have hm5 : w5.heap[m]? = some (.map #[] 0) := by
    have hlt : m < w2.heap.size := lt_of_block HP.out
    rw [oC.block m hlt (fun f => f)]; exact HP.out
  have hlk := fun k => look_none w5 m k hm5
  have HP5 := Lib.hid hm5; clear hm5
  have HB5 := Lib.hid hb5; clear hb5
  have HO := Lib.hid oC; clear oA oB oC b4 b5 hb4
  go_wp2_with fail
  have hI : Lib.IsBuilder 130 5 w2.heap.size w2.heap.size (Lib.byteCells lMail) w5 := .inr HB5.out
  refine (Tryz.Builder_String w2.heap.size w2.heap.size lMail w5 hI (by simp [lMail])).mono ?_
  rintro e w6 ⟨rfl, b6⟩
  have oD := HO.out.below_at b6 (Nat.le_refl _)
  have h6 := h2.only oD (fun _ f => f.elim)
  have he6 := he2.only oD (fun f => f)
  have hm6 : w6.heap[m]? = some (.map #[] 0) := by
    have hlt : m < w2.heap.size := lt_of_block HP.out
    rw [oD.block m hlt (fun f => f)]; exact HP.out
  have HM6 := Lib.hid hm6; clear hm6 hlk
  have HD6 := Lib.hid oD; clear oD b6
  clear hI hc5
  go_wp2_with fail
  refine (asks h6 he6 HD.out HN.out lMail (by simp [lMail]) (by simp [lMail]; omega) l250 tail [120] 250 250 (by simp [l250]) (by simp [l250]) (.inl ⟨rfl, rfl⟩) parse250_250).mono ?_
  rintro e w7 ⟨rfl, v7, h7, s7⟩
  have hnm : ¬ May c v' m := by
    rintro (ha | ho)
    · have := h6.lt m ha
      have h1 := h6.bs
      rcases ha with rfl | rfl | rfl | rfl | rfl | rfl | rfl | rfl
      · have := h6.wire; unfold Blk at this; rw [HM6.out] at this; cases this
      · obtain ⟨_, hb, _⟩ := h6.lim; unfold Blk at hb; rw [HM6.out] at hb; cases hb
      · obtain ⟨_, _, _, hb, _⟩ := h6.br; unfold Blk at hb; rw [HM6.out] at hb; cases hb
      · obtain ⟨_, _, _, _, _, _, _, hb, _⟩ := h6.br; unfold Blk at hb; rw [HM6.out] at hb; cases hb
      · have := h6.bw; unfold Blk at this; rw [HM6.out] at this; cases this
      · obtain ⟨_, hb, _⟩ := h6.wb; unfold Blk at hb; rw [HM6.out] at hb; cases hb
      · have := h6.tc; unfold Blk at this; rw [HM6.out] at this; cases this
      · have := h6.cl; unfold Blk at this; rw [HM6.out] at this; cases this
    · obtain ⟨_, h2'⟩ := h6.own
      rcases h2' with ⟨hv, _⟩ | ⟨g, cap, cur, hv, _, hh, _⟩
      · rw [show v' = _ from hv] at ho; simp [Value.ownBlock] at ho
      · rw [show v' = _ from hv] at ho; simp [Value.ownBlock] at ho; subst ho; rw [HM6.out] at hh; cases hh
  have hm7 : w7.heap[m]? = some (.map #[] 0) := by rw [s7.only.block m (lt_of_block HM6.out) hnm]; exact HM6.out
  have H7 := Lib.hid h7; clear h7
  have S7 := Lib.hid s7; clear s7
  have M7 := Lib.hid hm7; clear hm7 hnm
  go_wp2_with fail
  go_ret
  exact ⟨rfl, v7, m, H7.out, M7.out, HT.out.trans (Step.mono_left HD6.out (fun _ f => f.elim) S7.out)⟩

end Go.Proofs.YtejckkeahmpcmaaGreatDoor
