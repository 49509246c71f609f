/- The client's Data: the DATA command and a dot writer. No statement of the seat is proved here. -/
import Derived.Test.YtejckkeahmpcmaaGreatDoorHello
namespace Go.Proofs.YtejckkeahmpcmaaGreatDoor
open Go.RowKit
set_option linter.unusedVariables false
set_option maxHeartbeats 400000

variable {w : World} {c : Ids} {s : St}

theorem dotwriter (h : Inv w c s) (hd : s.dot = .pointer none) :
    Calls Tryz.prog 100 #[ptr c.TC] w fun e w' => ∃ D, e = .returned (.iface 174 (ptr D)) ∧ Inv w' c { s with dot := ptr D } ∧ Blk w' D #[ptr c.TC, .int .i64 0] 226 ∧ w.heap.size ≤ D ∧ Only (fun k => k = c.TC) w w' := by
  have hc := h.tc.cell
  have hf := h.tc.free
  rw [hd] at hc
  have hlt : c.TC < w.heap.size := h.all_lt c.TC (by simp [Ids.all])
  have hne : ¬ c.TC = w.heap.size := by omega
  go_enter Tryz.func100, Tryz.ntmps100
  go_wp2_with fail
  refine (nodot w c.TC _ _ _ hc).mono ?_
  rintro e w1 ⟨rfl, rfl⟩
  go_wp2_with fail
  go_ret
  have oS : Only (fun k => k = c.TC) w (w.setCell ⟨c.TC, 3, none⟩ (ptr w.heap.size)) := (Only.refl _ _).setCell _ _ (fun _ => rfl)
  have hI := h.dotted oS (ptr w.heap.size) (by simpa [hd] using h.tc.set 3 (ptr w.heap.size))
  have hs : (w.setCell ⟨c.TC, 3, none⟩ (ptr w.heap.size)).heap.size = w.heap.size := by simp
  have hB := Blk.new (w.setCell ⟨c.TC, 3, none⟩ (ptr w.heap.size)) #[ptr c.TC, .int .i64 0] 226
  rw [hs] at hB
  exact ⟨w.heap.size, rfl, hI.alloc _, hB, Nat.le_refl _, oS.alloc _⟩

theorem errnew (w : World) (m : List UInt8) : Calls Tryz.prog 65 #[str m] w fun e w' => ∃ x, e = .returned (.iface 178 x) ∧ Only (fun _ => False) w w' := by
  go_enter Tryz.func65, Tryz.ntmps65
  go_wp2_with fail
  go_ret
  exact ⟨_, rfl, (Only.refl _ _).alloc _⟩

def lData : List UInt8 := [68, 65, 84, 65]

theorem data (h : Inv w c s) (he : Eb w) (hd : s.dot = .pointer none) (hpn : s.pnd = []) (hm : s.snt.length ≤ 40000) (tail : List UInt8) (hs : Next s (l354 ++ 13 :: 10 :: tail)) :
    Calls Tryz.prog 78 #[ptr c.C] w fun e w' => ∃ D E, e = .returned (.tuple #[ptr E, .nilIface]) ∧ ∃ v', Inv w' c { s with inp := [], rest := tail, sv := v', snt := s.snt ++ (lData ++ [13, 10]), dot := ptr D } ∧
      Blk w' D #[ptr c.TC, .int .i64 0] 226 ∧ Blk w' E #[ptr c.C, .iface 174 (ptr D), .nilIface] 191 ∧ w.heap.size ≤ D ∧ w.heap.size ≤ E ∧ Step c w s.sv w' v' := by
  have hc := h.cl.cell
  have HS := Lib.hid hs; clear hs
  have HD := Lib.hid hd; clear hd
  have HN := Lib.hid hpn; clear hpn
  go_enter Tryz.func78, Tryz.ntmps78
  go_wp2_with fail
  refine (asks h he HD.out HN.out lData (by simp [lData]) (by simp [lData]; omega) l354 tail [120] 354 354 (by simp [l354]) (by simp [l354]) HS.out parse354_354).mono ?_
  rintro e w1 ⟨rfl, v1, h1, s1⟩
  have hc1 := h1.cl.cell
  have HT := Lib.hid s1; clear s1
  clear hc
  go_wp2_with fail
  refine (dotwriter h1 HD.out).mono ?_
  rintro e w2 ⟨D, rfl, h2, hb2, hD2, o2⟩
  have H2 := Lib.hid h2; clear h2
  have HB := Lib.hid hb2; clear hb2
  have HO := Lib.hid o2; clear o2
  have hsz := HT.out.only.size
  have hsz2 := HO.out.size
  clear hc1
  go_wp2_with fail
  go_ret2
  refine ⟨D, w2.heap.size, rfl, v1, H2.out.alloc _, HB.out.alloc _, Blk.new _ _ _, by omega, by omega, HT.out.then (HO.out.alloc _) (fun k hk => .inl (.inl (by subst hk; simp [Ids.all])))⟩

end Go.Proofs.YtejckkeahmpcmaaGreatDoor
