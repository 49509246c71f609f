/- The client's writing side, function by function: what each does to the client's memory. No statement of the seat is proved here. -/
import Derived.Test.YtejckkeahmpcmaaGreatDoorInv
namespace Go.Proofs.YtejckkeahmpcmaaGreatDoor
open Go.RowKit
set_option linter.unusedVariables false
set_option maxHeartbeats 400000

theorem avail (w : World) (BW n : Nat) (e wr : Value) (a : Option Addr) (hn : n ≤ 4096)
    (hc : ∀ i, w.cell? ⟨BW, i, none⟩ = #[e, .slice a 4096 4096, .int .i64 n, wr][i]?) :
    Calls Tryz.prog 167 #[.pointer (some ⟨BW, 0, none⟩)] w fun e w' => e = .returned (.int .i64 (4096 - n)) ∧ ∃ q, w.drewN q = w' := by
  go_enter Tryz.func167, Tryz.ntmps167
  go_wp2
  go_quiet (fail)
  go_wp2
  go_ret
  exact ⟨rfl, _, rfl⟩

theorem wbyte_raw (w : World) (BW WB : Nat) (n : Nat) (b : Int) (wr : Value) (hn : n < 4096)
    (hc : ∀ i, w.cell? ⟨BW, i, none⟩ = #[.nilIface, .slice (some ⟨WB, 0, none⟩) 4096 4096, .int .i64 n, wr][i]?)
    (hf : ∀ i, w.frozen? ⟨BW, i, none⟩ = false) (x : Value) (hx : w.cell? ⟨WB, n, none⟩ = some x) (hfx : ∀ i, w.frozen? ⟨WB, i, none⟩ = false) (hne : BW ≠ WB) :
    Calls Tryz.prog 185 #[.pointer (some ⟨BW, 0, none⟩), .int .u8 b] w fun e w' => e = .returned .nilIface ∧ ∃ q, ((w.drewN q).setCell ⟨WB, n, none⟩ (.int .u8 b)).setCell ⟨BW, 2, none⟩ (.int .i64 (n + 1)) = w' := by
  have hlt : decide ((4096 : Int) - n ≤ 0) = false := by simp; omega
  have hne' : WB ≠ BW := fun h => hne h.symm
  go_enter Tryz.func185, Tryz.ntmps185
  go_wp2_with (go_at_call 167; refine (avail _ _ n _ _ _ (by omega) hc).mono ?_; rintro e w' ⟨rfl, q, rfl⟩)
  go_region
  go_wp2
  go_ret
  exact ⟨rfl, _, rfl⟩

variable {w : World} {c : Ids} {s : St}

theorem wbyte (h : Inv w c s) (hp : s.pnd.length < 4096) (b : UInt8) :
    Calls Tryz.prog 185 #[ptr c.BW, .int .u8 b.toNat] w fun e w' => e = .returned .nilIface ∧ Inv w' c { s with pnd := s.pnd ++ [b] } ∧ Only (fun k => k = c.BW ∨ k = c.WB) w w' := by
  obtain ⟨C, hwb, hC, hl⟩ := h.wb
  have hx : w.cell? ⟨c.WB, s.pnd.length, none⟩ = some C[s.pnd.length] := by rw [hwb.cell]; simp [hC, hp]
  refine (wbyte_raw w c.BW c.WB s.pnd.length b.toNat c.rwc hp h.bw.cell h.bw.free _ hx hwb.free h.n_BW_WB).mono ?_
  rintro e w' ⟨rfl, q, rfl⟩
  have ho : Only (fun k => k = c.BW ∨ k = c.WB) w (((w.drewN q).setCell ⟨c.WB, s.pnd.length, none⟩ (.int .u8 b.toNat)).setCell ⟨c.BW, 2, none⟩ (.int .i64 (s.pnd.length + 1))) :=
    (((Only.refl _ _).drewN q).setCell _ _ (fun _ => .inr rfl)).setCell _ _ (fun _ => .inl rfl)
  refine ⟨rfl, h.out ho (s.pnd ++ [b]) (by simp; omega) ?_ ⟨_, ((hwb.drewN q).set _ _).other (by exact h.n_BW_WB.symm) _, by simpa using hC, hl.push b (by omega)⟩, ho⟩
  have := (((h.bw.drewN q).other (a := ⟨c.WB, s.pnd.length, none⟩) h.n_BW_WB (.int .u8 b.toNat)).set 2 (.int .i64 (s.pnd.length + 1)))
  simpa using this

theorem wstr (h : Inv w c s) (l : List UInt8) (hp : s.pnd.length + l.length < 4096) :
    Calls Tryz.prog 127 #[ptr c.BW, str l] w fun e w' => e = .returned (.tuple #[.int .i64 l.length, .nilIface]) ∧ Inv w' c { s with pnd := s.pnd ++ l } ∧ Only (fun k => k = c.BW ∨ k = c.WB) w w' := by
  obtain ⟨C, hwb, hC, hl⟩ := h.wb
  have hc := h.bw.cell
  have hf := h.bw.free
  have hpl := h.pl
  have hs : (⟨l.toArray⟩ : ByteArray).size = l.length := rfl
  have hlt : decide ((4096 : Int) - s.pnd.length < l.length) = false := by simp; omega
  have h1 : (s.pnd.length : Int) ≤ 4096 := by omega
  have h2 : ¬ (4096 = s.pnd.length) := by omega
  have hc2 : ∀ q cs i, ((w.drewN q).setRow c.WB cs).cell? ⟨c.BW, i, none⟩ = #[.nilIface, .slice (some ⟨c.WB, 0, none⟩) 4096 4096, .int .i64 s.pnd.length, c.rwc][i]? := fun q cs => ((h.bw.drewN q).rowOther h.n_BW_WB cs).cell
  have hf2 : ∀ q cs i, ((w.drewN q).setRow c.WB cs).frozen? ⟨c.BW, i, none⟩ = false := fun q cs => ((h.bw.drewN q).rowOther h.n_BW_WB cs).free
  go_enter Tryz.func127, Tryz.ntmps127
  go_wp2
  refine wp_loop_rounds 1 ?_
  rw [rounds_succ]
  go_wp2_with (go_at_call 167; refine (avail _ _ s.pnd.length _ _ _ (by omega) hc).mono ?_; rintro e w' ⟨rfl, q, rfl⟩)
  go_region_law (refine step_copy_string rfl (.tmp 101) (.tmp 102) 52 9 rfl 5 Tryz.underlying52 (by kernel_rfl) c.WB s.pnd.length (4096 - s.pnd.length) _ ⟨l.toArray⟩ rfl rfl C 5 hwb (by rw [hs]; omega) (by rw [hs]; omega) ?_)
  all_goals
    go_wp2
    go_ret2
    refine ⟨by simp, ?_⟩
    have ho : Only (fun k => k = c.BW ∨ k = c.WB) w (((w.drewN (q + 1)).setRow c.WB (putAt C s.pnd.length l)).setCell ⟨c.BW, 2, none⟩ (.int .i64 (s.pnd.length + l.length))) :=
      (((Only.refl _ _).drewN _).setRow _ _ (fun _ => .inr rfl)).setCell _ _ (fun _ => .inl rfl)
    refine ⟨h.out ho (s.pnd ++ l) (by simp; omega) ?_ ⟨_, ((hwb.drewN _).row _).other (by exact h.n_BW_WB.symm) _, ?_, hl.put (by omega) l (by omega)⟩, ho⟩
    · have := (((h.bw.drewN (q + 1)).rowOther h.n_BW_WB (putAt C s.pnd.length l)).set 2 (.int .i64 (s.pnd.length + l.length)))
      simpa using this
    · rw [put_size _ (by omega)]; exact hC
end Go.Proofs.YtejckkeahmpcmaaGreatDoor
