/- The reader's lines. No statement of the seat is proved here. -/
import Derived.Test.YtejckkeahmpcmaaGreatDoorFind
namespace Go.Proofs.YtejckkeahmpcmaaGreatDoor
open Go.RowKit
set_option linter.unusedVariables false
set_option maxHeartbeats 400000

theorem quiet0 {P : Program} {f : FuncId} {args : Array Value} {w : World} {n : Nat} {v : Value}
    (h : Calls P f args (w.drewN n) fun e w' => e = .returned v ∧ w.drewN n = w') : Calls P f args (w.drewN n) fun e w'' => e = .returned v ∧ ∃ m, w'' = w.drewN m :=
  h.mono fun _ _ ⟨he, hm⟩ => ⟨he, n, hm.symm⟩
theorem quiet1 {P : Program} {f : FuncId} {args : Array Value} {w : World} {n : Nat} {v : Value}
    (h : Calls P f args (w.drewN n) fun e w' => e = .returned v ∧ ∃ m, (w.drewN n).drewN m = w') : Calls P f args (w.drewN n) fun e w'' => e = .returned v ∧ ∃ m, w'' = w.drewN m :=
  h.mono fun _ _ ⟨he, m, hm⟩ => ⟨he, n + m, by rw [← hm, World.drewN_drewN]⟩

theorem quiet2 {P : Program} {f : FuncId} {args : Array Value} {w : World} {a n : Nat} {v : Value}
    (h : Calls P f args (w.drewN (a + n)) fun e w' => e = .returned v ∧ ∃ m, (w.drewN (a + n)).drewN m = w') : Calls P f args (w.drewN (a + n)) fun e w'' => e = .returned v ∧ ∃ m, w'' = (w.drewN a).drewN m :=
  h.mono fun _ _ ⟨he, m, hm⟩ => ⟨he, n + m, by rw [← hm, World.drewN_drewN, World.drewN_drewN, Nat.add_assoc]⟩
theorem quiet3 {P : Program} {f : FuncId} {args : Array Value} {w : World} {a n : Nat} {v : Value}
    (h : Calls P f args (w.drewN (a + n)) fun e w' => e = .returned v ∧ ∃ m, (w.drewN (a + n)).drewN m = w') : Calls P f args (w.drewN (a + n)) fun e w'' => e = .returned v ∧ ∃ m, w'' = w.drewN (a + m) :=
  h.mono fun _ _ ⟨he, m, hm⟩ => ⟨he, n + m, by rw [← hm, World.drewN_drewN, Nat.add_assoc]⟩

variable {w : World} {c : Ids} {s : St}

theorem slice_done (h : Inv w c s) (line tail : List UInt8) (hi : s.inp = []) {r q : Nat} {lb lr : Int} {C : Array Value} (hR : Blk w c.RB C 5) (hC : C.size = 4096) (hL : Lies C r (line ++ 10 :: tail))
    (hq : q = r + (line.length + 1 + tail.length)) (h1 : q ≤ 4096)
    (hbr : Blk w c.BR #[.slice (some ⟨c.RB, 0, none⟩) 4096 4096, c.rwc, .int .i64 r, .int .i64 q, .nilIface, .int .i64 lb, .int .i64 lr] 255) (n : Nat) (v2 v5 v6 : Int) (hv : v2 = r + line.length + 1) :
    Inv ((((w.drewN n).setCell ⟨c.BR, 2, none⟩ (.int .i64 v2)).setCell ⟨c.BR, 5, none⟩ (.int .i64 v5)).setCell ⟨c.BR, 6, none⟩ (.int .i64 v6)) c { s with rest := tail } ∧
      Only (fun k => k = c.BR) w ((((w.drewN n).setCell ⟨c.BR, 2, none⟩ (.int .i64 v2)).setCell ⟨c.BR, 5, none⟩ (.int .i64 v5)).setCell ⟨c.BR, 6, none⟩ (.int .i64 v6)) ∧
      Blk ((((w.drewN n).setCell ⟨c.BR, 2, none⟩ (.int .i64 v2)).setCell ⟨c.BR, 5, none⟩ (.int .i64 v5)).setCell ⟨c.BR, 6, none⟩ (.int .i64 v6)) c.RB C 5 := by
  subst hv
  have ho : Only (fun k => k = c.BR) w ((((w.drewN n).setCell ⟨c.BR, 2, none⟩ (.int .i64 (r + line.length + 1))).setCell ⟨c.BR, 5, none⟩ (.int .i64 v5)).setCell ⟨c.BR, 6, none⟩ (.int .i64 v6)) :=
    ((((Only.refl (fun k => k = c.BR) w).drewN n).setCell ⟨c.BR, 2, none⟩ _ (fun _ => rfl)).setCell ⟨c.BR, 5, none⟩ _ (fun _ => rfl)).setCell ⟨c.BR, 6, none⟩ _ (fun _ => rfl)
  refine ⟨h.read ho tail hi ⟨r + line.length + 1, v5, v6, ?_, by omega, C, hR, hC, ?_⟩, ho, ho.blk hR h.n_BR_RB.symm⟩
  · have := (((hbr.drewN n).set 2 (.int .i64 (r + line.length + 1))).set 5 (.int .i64 v5)).set 6 (.int .i64 v6)
    have e : ((r + line.length + 1 + tail.length : Nat) : Int) = q := by omega
    rw [e]
    simpa using this
  · intro i b hb
    have := hL (line.length + 1 + i) b (by rw [List.getElem?_append_right (by omega), show line.length + 1 + i - line.length = i + 1 from by omega]; simpa using hb)
    rw [show r + line.length + 1 + i = r + (line.length + 1 + i) from by omega]
    exact this

theorem readslice (h : Inv w c s) (line tail : List UInt8) (hrest : s.rest = line ++ 10 :: tail) (h10 : (10 : UInt8) ∉ line) (hi : s.inp = []) :
    Calls Tryz.prog 196 #[ptr c.BR, .int .u8 10] w fun e w' => ∃ r cap : Nat, e = .returned (.tuple #[.slice (some ⟨c.RB, r, none⟩) (line.length + 1) cap, .nilIface]) ∧
      Inv w' c { s with rest := tail } ∧ Only (fun k => k = c.BR) w w' ∧ ∃ C, Blk w' c.RB C 5 ∧ C.size = 4096 ∧ Lies C r (line ++ [10]) ∧ r + line.length + 1 ≤ 4096 ∧ line.length + 1 ≤ cap := by
  obtain ⟨r, lb, lr, hbr, h1, h2, C, hR, hC, hL⟩ := h.br
  rw [hrest] at hbr hL h1
  have hlen : (line ++ 10 :: tail).length = line.length + 1 + tail.length := by simp; omega
  rw [hlen] at hbr h1
  obtain ⟨q, hq⟩ : ∃ q : Nat, q = r + (line.length + 1 + tail.length) := ⟨_, rfl⟩
  rw [← hq] at hbr h1
  have hc := hbr.cell
  have hf := hbr.free
  have k1 : (r : Int) ≤ q := by omega
  have k2 : ¬ (4096 = r) := by omega
  have k3 : (q : Int) ≤ 4096 := by omega
  have k4 : r + line.length + 1 ≤ 4096 := by omega
  have k5 : (r : Int) + line.length + 1 ≤ 4096 := by omega
  have n1 : ¬ (c.BR = c.RB) := h.n_BR_RB
  have n2 : ¬ (c.RB = c.BR) := fun e => h.n_BR_RB e.symm
  have hcell : w.cell? ⟨c.RB, r + line.length, none⟩ = some (.int .u8 10) := by
    have := hL line.length 10 (by simp)
    rw [hR.cell]; exact this
  have hsub : r + line.length + 1 - r = line.length + 1 := by omega
  have hfind : ∀ n, Calls Tryz.prog 200 #[.slice (some ⟨c.RB, r, none⟩) (q - r) (4096 - r), .int .u8 10] (w.drewN n) fun e w' => e = .returned (.int .i64 line.length) ∧ w.drewN n = w' := by
    intro n
    have := findlf (w.drewN n) c.RB r (q - r) (4096 - r) C (line ++ 10 :: tail) (hR.drewN n) hL (by rw [hlen]; omega)
    rw [indexByte_at line tail h10] at this
    exact this
  have HF := Lib.hid hfind; clear hfind
  have HQ := Lib.hid hq; clear hq
  have HL := Lib.hid hL; clear hL
  go_enter Tryz.func196, Tryz.ntmps196
  go_wp2_with fail
  refine wp_loop_rounds 1 ?_
  rw [rounds_succ]
  go_wp2_with fail
  go_quiet ((go_at_call 200; exact quiet0 (HF.out _)))
  go_wp2_with fail
  go_quiet (fail)
  go_wp2_with fail
  go_ret2
  refine ⟨r, 4096 - r, ?_, (slice_done h line tail hi hR hC HL.out HQ.out h1 hbr _ _ _ _ ?_).1, (slice_done h line tail hi hR hC HL.out HQ.out h1 hbr _ _ _ _ ?_).2.1, C, (slice_done h line tail hi hR hC HL.out HQ.out h1 hbr _ _ _ _ ?_).2.2, hC, ?_, by omega, by omega⟩
  · simp [hsub]
  · omega
  · omega
  · omega
  intro i b hb
  refine HL.out i b ?_
  have hi2 : i < (line ++ [10]).length := by
    rcases Nat.lt_or_ge i (line ++ [10]).length with h' | h'
    · exact h'
    · rw [List.getElem?_eq_none h'] at hb; cases hb
  rw [show line ++ 10 :: tail = (line ++ [10]) ++ tail from by simp, List.getElem?_append_left hi2]
  exact hb
theorem readslice_first (h : Inv w c s) (line tail : List UInt8) (hin : s.inp = line ++ 10 :: tail) (h10 : (10 : UInt8) ∉ line) :
    Calls Tryz.prog 196 #[ptr c.BR, .int .u8 10] w fun e w' => ∃ r cap : Nat, e = .returned (.tuple #[.slice (some ⟨c.RB, r, none⟩) (line.length + 1) cap, .nilIface]) ∧
      Inv w' c { s with inp := [], rest := tail } ∧ Only (fun k => k = c.W ∨ k = c.L ∨ k = c.RB ∨ k = c.BR) w w' ∧ ∃ C, Blk w' c.RB C 5 ∧ C.size = 4096 ∧ Lies C r (line ++ [10]) ∧ r + line.length + 1 ≤ 4096 ∧ line.length + 1 ≤ cap := by
  have hne : s.inp ≠ [] := by rw [hin]; simp
  have hilen : s.inp.length ≤ 2000 := by obtain ⟨k, _, hk, _⟩ := h.lim; omega
  obtain ⟨r, lb, lr, hbr, h1, h2, C, hR, hC, hL⟩ := h.br
  obtain ⟨rfl, hr⟩ := h2 hne
  rw [hr] at hbr
  have hbr : Blk w c.BR #[.slice (some ⟨c.RB, 0, none⟩) 4096 4096, c.rwc, .int .i64 (0 : Nat), .int .i64 (0 : Nat), .nilIface, .int .i64 lb, .int .i64 lr] 255 := by simpa using hbr
  have hlen : (line ++ 10 :: tail).length = line.length + 1 + tail.length := by simp; omega
  have hbuf : ∀ n, Calls Tryz.prog 202 #[ptr c.BR] (w.drewN n) fun e w' => e = .returned (.int .i64 0) ∧ ∃ m, (w.drewN n).drewN m = w' := by
    intro n
    exact (buffered (w.drewN n) c.BR 0 0 _ _ _ _ _ (hbr.drewN n).cell (Nat.le_refl _) (by omega)).mono fun e w' ⟨he, hw⟩ => ⟨by simpa using he, hw⟩
  have hbr : Blk w c.BR #[.slice (some ⟨c.RB, 0, none⟩) 4096 4096, c.rwc, .int .i64 0, .int .i64 0, .nilIface, .int .i64 lb, .int .i64 lr] 255 := by simpa using hbr
  have hc := hbr.cell
  have hf := hbr.free
  have k2 : ¬ (4096 = 0) := by omega
  have hfind : ∀ n, Calls Tryz.prog 200 #[.slice (some ⟨c.RB, 0, none⟩) 0 4096, .int .u8 10] (w.drewN n) fun e w' => e = .returned (.int .i64 (-1)) ∧ w.drewN n = w' := by
    intro n
    exact findlf (w.drewN n) c.RB 0 0 4096 C [] (hR.drewN n) (Lies.nil _ _) rfl
  have HF := Lib.hid hfind; clear hfind
  have HB := Lib.hid hbuf; clear hbuf
  have HN := Lib.hid hin; clear hin
  have HL := Lib.hid hlen; clear hlen
  clear hr
  have HNE := Lib.hid hne; clear hne
  go_enter Tryz.func196, Tryz.ntmps196
  go_wp2_with fail
  refine wp_loop_rounds 2 ?_
  rw [rounds_succ]
  go_wp2_with fail
  go_quiet ((go_at_call 200; exact quiet0 (HF.out _)))
  go_wp2_with fail
  go_quiet ((go_at_call 202; first | exact quiet2 (HB.out _) | exact quiet3 (HB.out _)))
  go_wp2_with fail
  go_quiet (fail)
  go_wp2_with fail
  refine (fill (h.drewN _) HNE.out).mono ?_
  rintro e w1 ⟨rfl, h1', o1, lb1, lr1, hbr1, C1, hR1, hC1, hL1⟩
  have hq : s.inp.length = 0 + (line.length + 1 + tail.length) := by rw [HN.out, HL.out]; omega
  obtain ⟨q, hq1⟩ : ∃ q : Nat, q = s.inp.length := ⟨_, rfl⟩
  rw [← hq1] at hbr1 hq hilen
  rw [HN.out] at hL1
  clear hq1 hc hf
  have hc1 := hbr1.cell
  have hf1 := hbr1.free
  have k1 : (0 : Int) ≤ q := by omega
  have k3 : (q : Int) ≤ 4096 := by omega
  have k4 : line.length + 1 ≤ 4096 := by omega
  have k5 : (line.length : Int) + 1 ≤ 4096 := by omega
  have n1 : ¬ (c.BR = c.RB) := h.n_BR_RB
  have n2 : ¬ (c.RB = c.BR) := fun e => h.n_BR_RB e.symm
  have hcell : w1.cell? ⟨c.RB, line.length, none⟩ = some (.int .u8 10) := by
    have := hL1 line.length 10 (by simp)
    rw [Nat.zero_add] at this
    rw [hR1.cell]; exact this
  have hfind1 : ∀ n, Calls Tryz.prog 200 #[.slice (some ⟨c.RB, 0, none⟩) q 4096, .int .u8 10] (w1.drewN n) fun e w' => e = .returned (.int .i64 line.length) ∧ w1.drewN n = w' := by
    intro n
    have := findlf (w1.drewN n) c.RB 0 q 4096 C1 (line ++ 10 :: tail) (hR1.drewN n) hL1 (by rw [HL.out]; omega)
    rw [indexByte_at line tail h10] at this
    exact this
  clear HF HB
  have HF := Lib.hid hfind1; clear hfind1
  have HQ := Lib.hid hq; clear hq
  have HL1 := Lib.hid hL1; clear hL1
  go_wp2_with fail
  rw [rounds_succ]
  go_wp2_with fail
  go_quiet ((go_at_call 200; exact quiet0 (HF.out _)))
  go_wp2_with fail
  go_quiet (fail)
  go_wp2_with fail
  go_ret2
  have o2 : Only (fun k => k = c.W ∨ k = c.L ∨ k = c.RB ∨ k = c.BR) w w1 := ((Only.refl (fun _ => False) w).drewN _ |>.mono (fun _ f => f.elim)).trans o1
  have hbr2 : Blk w1 c.BR #[.slice (some ⟨c.RB, 0, none⟩) 4096 4096, c.rwc, .int .i64 (0 : Nat), .int .i64 q, .nilIface, .int .i64 lb1, .int .i64 lr1] 255 := hbr1
  refine ⟨0, 4096, ?_, (slice_done h1' line tail rfl hR1 hC1 HL1.out HQ.out (by omega) hbr2 _ _ _ _ ?_).1, o2.trans ((slice_done h1' line tail rfl hR1 hC1 HL1.out HQ.out (by omega) hbr2 _ _ _ _ ?_).2.1.mono (fun k hk => .inr (.inr (.inr hk)))), C1, (slice_done h1' line tail rfl hR1 hC1 HL1.out HQ.out (by omega) hbr2 _ _ _ _ ?_).2.2, hC1, ?_, by omega, by omega⟩
  · simp
  · omega
  · omega
  · omega
  intro i b hb
  refine HL1.out i b ?_
  have hi2 : i < (line ++ [10]).length := by
    rcases Nat.lt_or_ge i (line ++ [10]).length with h' | h'
    · exact h'
    · rw [List.getElem?_eq_none h'] at hb; cases hb
  rw [show line ++ 10 :: tail = (line ++ [10]) ++ tail from by simp, List.getElem?_append_left hi2]
  exact hb

end Go.Proofs.YtejckkeahmpcmaaGreatDoor
