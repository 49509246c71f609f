/- The client's writing side, continued: the wire's Write, Flush, a command's line. No statement of the seat is proved here. -/
import Derived.Test.YtejckkeahmpcmaaGreatDoorOut
namespace Go.Proofs.YtejckkeahmpcmaaGreatDoor
open Go.RowKit
set_option linter.unusedVariables false
set_option maxHeartbeats 400000


variable {w : World} {c : Ids} {s : St}

theorem wirew (h : Inv w c s) (hp : s.pnd ≠ []) (hm : s.snt.length + s.pnd.length ≤ 100000) :
    Calls Tryz.prog 230 #[ptr c.W, .slice (some ⟨c.WB, 0, none⟩) s.pnd.length 4096] w fun e w' => e = .returned (.tuple #[.int .i64 s.pnd.length, .nilIface]) ∧
      ∃ v', Inv w' c { s with sv := v', snt := s.snt ++ s.pnd } ∧ Step c w s.sv w' v' := by
  obtain ⟨C, hwb, hC, hl⟩ := h.wb
  have hc := h.wire.cell
  have hf := h.wire.free
  obtain ⟨i0, hi, hz0, hz1, hz2⟩ := info_parts info5
  have hown := h.own
  have hbs := h.bs
  have hnews : ∀ j u, (cellsOf s.pnd)[j]? = some u → w.cell? ((⟨c.WB, 0, none⟩ : Addr).add j) = some u := by
    intro j u hj
    rw [cellsOf_get] at hj
    cases hb : s.pnd[j]? with
    | none => rw [hb] at hj; cases hj
    | some b =>
      rw [hb] at hj; cases hj
      have := hl j b hb
      rw [Nat.zero_add] at this
      have e : (⟨c.WB, 0, none⟩ : Addr).add j = ⟨c.WB, j, none⟩ := by unfold Addr.add; split <;> simp_all
      rw [e, hwb.cell]; exact this
  have hnot : s.sv.ownBlock ≠ some c.W := own_ne h.own h.wire (by decide)
  have HN := Lib.hid hnews; clear hnews
  have HX := Lib.hid hnot; clear hnot
  clear hl
  have K1 : Hid ((cellsOf s.pnd).length = s.pnd.length * 1) := by show _ = _; rw [cellsOf_length]; omega
  have K2 : Hid (s.snt.length + s.pnd.length ≤ maxLen) := by show _ ≤ _; unfold maxLen; omega
  have K3 : Hid ((s.snt.length + s.pnd.length) * 1 ≤ 140737488355328) := by show _ ≤ _; omega
  go_enter Tryz.func230, Tryz.ntmps230
  go_wp2_with (at_builtin; refine wpList_append_own2 rfl _ _ 52 rfl c.Bs 5 i0 (.int .u8 0) 1 1 Tryz.underlying52 hi hz0 hz1 hz2 rfl (by decide) s.sv s.snt.length _ rfl hown ⟨c.WB, 0, none⟩ s.pnd.length 4096 (cellsOf s.pnd) rfl K1.out HN.out (cellsOf_one _) K2.out K3.out hbs ?_; intro p cap w1 HO HG HK; have ho1 : Only (fun k => s.sv.ownBlock = some k) w w1 := (Only.refl _ _).grown HG.out (fun k hk _ => hk); have hb1 := ho1.blk h.wire HX.out; have hc1 := hb1.cell; have hf1 := hb1.free; have HB := Lib.hid hb1; clear hb1; have HH := Lib.hid ho1; clear ho1)
  go_ret2
  have ho : Only (fun k => k = c.W ∨ s.sv.ownBlock = some k) w (w1.setCell ⟨c.W, 1, none⟩ (.slice p (s.snt.length + s.pnd.length) cap)) := (HH.out.mono (fun k hk => .inr hk)).setCell _ _ (fun _ => .inl rfl)
  refine ⟨rfl, _, h.sent ho (.slice p (s.snt.length + s.pnd.length) cap) (s.snt ++ s.pnd) ?_ ?_, ⟨ho.mono (fun k hk => hk.elim (fun e => .inl (.inl e)) .inr), HK.out⟩⟩
  · have := HB.out.set 1 (.slice p (s.snt.length + s.pnd.length) cap)
    simpa using this
  · have hO := HO.out
    rw [← cellsOf_append, ← List.length_append] at hO
    rw [← List.length_append]
    refine ownsRow_setCell_other hO (a := ⟨c.W, 1, none⟩) ?_ _
    exact own_ne hO HB.out (by decide)

set_option maxHeartbeats 4000000 in
theorem flush (h : Inv w c s) (hp : s.pnd ≠ []) (hm : s.snt.length + s.pnd.length ≤ 100000) :
    Calls Tryz.prog 128 #[ptr c.BW] w fun e w' => e = .returned .nilIface ∧ ∃ v', Inv w' c { s with sv := v', snt := s.snt ++ s.pnd, pnd := [] } ∧ Step c w s.sv w' v' := by
  have hc := h.bw.cell
  unfold Ids.rwc at hc
  have hf := h.bw.free
  have hpl := h.pl
  have hpos : s.pnd.length ≠ 0 := fun e => hp (List.eq_nil_of_length_eq_zero e)
  have hn0 : ((s.pnd.length : Int) == 0) = false := by rw [beq_eq_false_iff_ne]; omega
  have h1 : (s.pnd.length : Int) ≤ 4096 := by omega
  clear hpos
  go_enter Tryz.func128, Tryz.ntmps128
  go_wp2_with fail
  go_region_with (go_at_call 230; refine (wirew (h.drewN _) hp hm).mono ?_; rintro e w' ⟨rfl, v', h', st⟩)
  all_goals
    have hc' := h'.bw.cell
    have hf' := h'.bw.free
    clear hc hf
    go_wp2
    go_ret
    have ho : Only (fun k => k = c.BW ∨ k = c.WB) w' (w'.setCell ⟨c.BW, 2, none⟩ (.int .i64 0)) := (Only.refl _ _).setCell _ _ (fun _ => .inl rfl)
    obtain ⟨C, hwb, hC, _⟩ := h'.wb
    refine ⟨rfl, v', h'.out ho [] (by simp) ?_ ⟨C, hwb.other (by exact h'.n_BW_WB.symm) _, hC, Lies.nil _ _⟩, (Step.mono_left (S := fun _ => False) ((Only.refl _ _).drew) (fun _ hf => hf.elim) st).then ho ?_⟩
    · have := h'.bw.set 2 (.int .i64 0)
      simpa using this
    · rintro i (rfl | rfl) <;> exact .inl (.inl (by simp [Ids.all]))

end Go.Proofs.YtejckkeahmpcmaaGreatDoor
