/- The client's greeting and hello. No statement of the seat is proved here. -/
import Derived.Test.YtejckkeahmpcmaaGreatDoorAsk
import Derived.Test.YtejckkeahmpcmaaGreatDoorValid
namespace Go.Proofs.YtejckkeahmpcmaaGreatDoor
open Go.RowKit
set_option linter.unusedVariables false
set_option maxHeartbeats 400000

variable {w : World} {c : Ids} {s : St}

def l220 : List UInt8 := [50, 50, 48, 32, 120]
def l250 : List UInt8 := [50, 53, 48, 32, 120]
def l354 : List UInt8 := [51, 53, 52, 32, 120]

theorem greet (h : Inv w c s) (he : Eb w) (hg : s.dg = false) (tail : List UInt8) (hs : Next s (l220 ++ 13 :: 10 :: tail)) :
    Calls Tryz.prog 90 #[ptr c.C] w fun e w' => e = .returned .nilIface ∧ Inv w' c { s with inp := [], rest := tail, dg := true } ∧ Only (May c s.sv) w w' := by
  have hc := h.cl.cell
  rw [hg] at hc
  have hf := h.cl.free
  have ho : Only (fun k => k = c.C) w (w.setCell ⟨c.C, 5, none⟩ (.bool true)) := (Only.refl _ _).setCell _ _ (fun _ => rfl)
  have h1 : Inv (w.setCell ⟨c.C, 5, none⟩ (.bool true)) c { s with dg := true } := h.client ho s.ext true s.dh s.rc (by have := h.cl.set 5 (.bool true); simpa using this)
  have hm : Only (May c s.sv) w (w.setCell ⟨c.C, 5, none⟩ (.bool true)) := ho.mono (fun k hk => .inl (by subst hk; simp [Ids.all]))
  have he1 := he.only hm (he.not h)
  have HI := Lib.hid h1; clear h1
  have HM := Lib.hid hm; clear hm ho
  have HS := Lib.hid hs; clear hs
  clear hg
  go_enter Tryz.func90, Tryz.ntmps90
  go_wp2_with fail
  refine (reads HI.out he1 l220 tail [120] 220 220 (by simp [l220]) (by simp [l220]) HS.out parse220_220).mono ?_
  rintro e w2 ⟨rfl, h2, o2⟩
  have hc2 := h2.cl.cell
  have HO := Lib.hid o2; clear o2
  have H2 := Lib.hid h2; clear h2
  go_wp2_with fail
  go_ret
  exact ⟨rfl, H2.out, HM.out.trans HO.out⟩

theorem ehlo (h : Inv w c s) (he : Eb w) (hd : s.dot = .pointer none) (hpn : s.pnd = []) (hm : s.snt.length ≤ 50000) (tail : List UInt8) (hs : Next s (l250 ++ 13 :: 10 :: tail)) :
    Calls Tryz.prog 91 #[ptr c.C] w fun e w' => e = .returned .nilIface ∧ ∃ v' m, Inv w' c { s with inp := [], rest := tail, sv := v', snt := s.snt ++ [69, 72, 76, 79, 32, 108, 111, 99, 97, 108, 104, 111, 115, 116, 13, 10], ext := .map (some m) } ∧ w'.heap[m]? = some (.map #[] 0) ∧ Step c w s.sv w' v' := by
  have hc := h.cl.cell
  have hf := h.cl.free
  have HS := Lib.hid hs; clear hs
  have HD := Lib.hid hd; clear hd
  have HN := Lib.hid hpn; clear hpn
  go_enter Tryz.func91, Tryz.ntmps91
  go_wp2_with fail
  have hcat : ({ data := #[69, 72, 76, 79] } ++ { data := #[32] } ++ { data := #[108, 111, 99, 97, 108, 104, 111, 115, 116] } : ByteArray) = ⟨[69, 72, 76, 79, 32, 108, 111, 99, 97, 108, 104, 111, 115, 116].toArray⟩ := by decide +kernel
  rw [hcat]
  clear hcat
  refine (asks h he HD.out HN.out [69, 72, 76, 79, 32, 108, 111, 99, 97, 108, 104, 111, 115, 116] (by simp) (by simp; omega) l250 tail [120] 250 250 (by simp [l250]) (by simp [l250]) HS.out parse250_250).mono ?_
  rintro e w2 ⟨rfl, v', h2, s2⟩
  have hmm := @run_makeMap Tryz.prog
  have HT := Lib.hid s2; clear s2
  clear hc hf
  go_wp2_with fail
  refine (split_x _).mono ?_
  rintro e w3 ⟨p, cap, rfl, o3⟩
  have hmap : w3.heap[w2.heap.size]? = some (.map #[] 0) := by rw [o3.block _ (by simp) (fun f => f)]; exact heap_alloc_new w2 _
  have o4 : Only (fun _ => False) w2 w3 := ((Only.refl _ _).alloc _).trans o3
  have h3 := h2.only o4 (fun _ f => f.elim)
  have hc3 := h3.cl.cell
  have hf3 := h3.cl.free
  have HP := Lib.hid hmap; clear hmap
  have HO := Lib.hid o4; clear o4 o3
  have hlt := h2.all_lt c.C (by simp [Ids.all])
  go_wp2_with fail
  go_ret
  have ho : Only (fun k => k = c.C) w3 (w3.setCell ⟨c.C, 3, none⟩ (.map (some w2.heap.size))) := (Only.refl _ _).setCell _ _ (fun _ => rfl)
  refine ⟨rfl, v', w2.heap.size, ?_, ?_, HT.out.then ((HO.out.mono (fun _ f => f.elim)).trans ho) (fun i hi => .inl (.inl (by subst hi; simp [Ids.all])))⟩
  · refine h3.client ho (.map (some w2.heap.size)) s.dg s.dh s.rc ?_
    have := h3.cl.set 3 (.map (some w2.heap.size))
    simpa using this
  · rw [Below.heap_setCell _ _ _ _ (by show _ ≠ c.C; omega)]; exact HP.out

theorem hello (h : Inv w c s) (he : Eb w) (hg : s.dg = false) (hh : s.dh = false) (hd : s.dot = .pointer none) (hpn : s.pnd = []) (hm : s.snt.length ≤ 50000) (tail : List UInt8) (hs : Next s (l220 ++ 13 :: 10 :: (l250 ++ 13 :: 10 :: tail))) :
    Calls Tryz.prog 66 #[ptr c.C] w fun e w' => e = .returned .nilIface ∧ ∃ v' m, Inv w' c { s with inp := [], rest := tail, sv := v', snt := s.snt ++ [69, 72, 76, 79, 32, 108, 111, 99, 97, 108, 104, 111, 115, 116, 13, 10], ext := .map (some m), dg := true, dh := true } ∧ w'.heap[m]? = some (.map #[] 0) ∧ Step c w s.sv w' v' := by
  have hc := h.cl.cell
  rw [hh] at hc
  have hf := h.cl.free
  have HS := Lib.hid hs; clear hs
  have HD := Lib.hid hd; clear hd
  have HN := Lib.hid hpn; clear hpn
  have HG := Lib.hid hg; clear hg
  clear hh
  go_enter Tryz.func66, Tryz.ntmps66
  go_wp2_with fail
  refine (greet h he HG.out _ HS.out).mono ?_
  rintro e w1 ⟨rfl, h1, o1⟩
  have hc1 := h1.cl.cell
  have hf1 := h1.cl.free
  have he1 := he.only o1 (he.not h)
  clear hc hf
  have ho : Only (fun k => k = c.C) w1 (w1.setCell ⟨c.C, 7, none⟩ (.bool true)) := (Only.refl _ _).setCell _ _ (fun _ => rfl)
  have h2 : Inv (w1.setCell ⟨c.C, 7, none⟩ (.bool true)) c { s with inp := [], rest := l250 ++ 13 :: 10 :: tail, dg := true, dh := true } := h1.client ho s.ext true true s.rc (by have := h1.cl.set 7 (.bool true); simpa using this)
  have hM : Only (May c s.sv) w1 (w1.setCell ⟨c.C, 7, none⟩ (.bool true)) := ho.mono (fun k hk => .inl (by subst hk; simp [Ids.all]))
  have he2 := he1.only hM (by have := he1.not h1; exact this)
  have HO := Lib.hid (o1.trans hM); clear o1 hM ho
  have H2 := Lib.hid h2; clear h2
  go_wp2_with fail
  refine (ehlo H2.out he2 HD.out HN.out hm tail (.inl ⟨rfl, rfl⟩)).mono ?_
  rintro e w3 ⟨rfl, v', m, h3, hmap, s3⟩
  have hc3 := h3.cl.cell
  have hf3 := h3.cl.free
  have HT := Lib.hid s3; clear s3
  have HP := Lib.hid hmap; clear hmap
  clear hc1 hf1
  go_wp2_with fail
  go_ret
  exact ⟨rfl, v', m, h3, HP.out, Step.mono_left HO.out (fun _ h => h) HT.out⟩
end Go.Proofs.YtejckkeahmpcmaaGreatDoor
