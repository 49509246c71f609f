/- strings.Builder, written once behind Grow. No statement of the seat is proved here. -/
import Derived.Test.YtejckkeahmpcmaaGreatDoorShelf
import Derived.Test.YtejckkeahmpcmaaGreatDoorBase
namespace Go.Proofs.YtejckkeahmpcmaaGreatDoor
open Go.RowKit
set_option linter.unusedVariables false
set_option maxHeartbeats 400000

theorem copyCheck (w : World) (b : Nat) (v : Value) (h : Blk w b #[ptr b, v] 130) : Calls Tryz.prog 93 #[ptr b] w fun e w' => e = .returned (.tuple #[]) ∧ w = w' := by
  have hc := h.cell
  obtain ⟨j, hj⟩ : ∃ j, Tryz.prog.info? 130 = some j := Option.isSome_iff_exists.1 (by kernel_rfl)
  have hne := Lib.run_neq_ptr_same (P := Tryz.prog) w (tp := 128) (te := 130) ⟨b, 0, none⟩ Tryz.underlying128 hj
  clear hj
  go_enter Tryz.func93, Tryz.ntmps93
  go_wp2
  go_end0
  exact ⟨rfl, rfl⟩

theorem own_slice {w : World} {base e size n : Nat} {v : Value} {xs : List Value} (h : w.ownsRow base e size v n xs) : ∃ a m c, v = .slice a m c := by
  obtain ⟨_, h2⟩ := h
  rcases h2 with ⟨rfl, _⟩ | ⟨g, cap, cur, rfl, _⟩
  · exact ⟨_, _, _, rfl⟩
  · exact ⟨_, _, _, rfl⟩

theorem wrote (w : World) (B b : Nat) (bs : List Value) (s : ByteArray) (h : Lib.BuilderAt 130 5 B b (ptr b) bs w) (hlen : bs.length + s.size ≤ 140737488355328) (hBw : B ≤ w.heap.size) :
    Calls Tryz.prog 68 #[ptr b, .string s] w fun e w' => e = .returned (.tuple #[.int .i64 s.size, .nilIface]) ∧ Lib.BuilderAt 130 5 B b (ptr b) (bs ++ Lib.strCells s) w' ∧ Below B w w' := by
  obtain ⟨i0, hi, hz0, hz1, hz2⟩ := info_parts info5
  obtain ⟨hB, v, hbk, hown, hne⟩ := h
  have hbk' : Blk w b #[ptr b, v] 130 := hbk
  have hcc := Lib.hid (copyCheck w b v hbk')
  have hc := hbk'.cell
  have HN := Lib.hid hne; clear hne
  have HB := Lib.hid hbk; clear hbk
  have K1 : Hid (bs.length + s.size ≤ maxLen) := by show _ ≤ _; unfold maxLen; omega
  have K2 : Hid (bs.length + s.size ≤ 140737488355328) := by show _ ≤ _; omega
  clear hlen
  go_enter Tryz.func68, Tryz.ntmps68
  go_wp2_with fail
  refine hcc.out.mono ?_
  rintro e w1 ⟨rfl, rfl⟩
  go_wp2_with (at_builtin; refine Lib.wpList_append_own_string _ rfl _ _ 52 9 rfl B 5 i0 Tryz.underlying52 Tryz.underlying9 hi hz0 hz1 hz2 v bs.length bs rfl hown s rfl K1.out K2.out hBw ?_; intro v' w2 hown' hgrow _; obtain ⟨p, n, cap, hv⟩ := own_slice hown'; rw [hv]; have hb2 : Blk w2 b #[ptr b, v] 130 := (by unfold Blk; rw [hgrow.block b hbk'.lt (fun e => HN.out e.symm)]; exact HB.out); have hc2 := hb2.cell; have hf2 := hb2.free; have HO := Lib.hid hown'; clear hown'; have HG := Lib.hid hgrow; clear hgrow; have HV := Lib.hid hv; clear hv; have H2 := Lib.hid hb2; clear hb2)
  go_ret2
  rw [← HV.out]
  refine ⟨rfl, ?_, ?_⟩
  · exact Lib.BuilderAt.put (T := 130) (e := 5) hB H2.out (bs' := bs ++ Lib.strCells s) (by simpa [Lib.strCells_length] using HO.out) (by decide)
  · exact ((Below.refl B _).grown HG.out hBw (fun k hk => (hown.lt k hk).1)).setCell (p := ⟨b, 1, none⟩) hB _
end Go.Proofs.YtejckkeahmpcmaaGreatDoor
