/- bytes.IndexByte; the reader's first read. No statement of the seat is proved here. -/
import Derived.Test.YtejckkeahmpcmaaGreatDoorRead
import Derived.Lib.BytesEntry
namespace Go.Proofs.YtejckkeahmpcmaaGreatDoor
open Go.RowKit
set_option linter.unusedVariables false
set_option maxHeartbeats 400000

theorem indexByte_none (l : List UInt8) (h : (10 : UInt8) ∉ l) : Lib.indexByte l 10 = -1 := by
  induction l with
  | nil => rfl
  | cons b l ih =>
    simp only [List.mem_cons, not_or] at h
    unfold Lib.indexByte
    have hb : (b == 10) = false := by rw [beq_eq_false_iff_ne]; exact fun e => h.1 e.symm
    simp [hb, ih h.2]
theorem indexByte_at (l r : List UInt8) (h : (10 : UInt8) ∉ l) : Lib.indexByte (l ++ 10 :: r) 10 = l.length := by
  induction l with
  | nil => rfl
  | cons b l ih =>
    simp only [List.mem_cons, not_or] at h
    rw [List.cons_append]
    unfold Lib.indexByte
    have hb : (b == 10) = false := by rw [beq_eq_false_iff_ne]; exact fun e => h.1 e.symm
    have hne : (((l.length : Nat) : Int) == -1) = false := by rw [beq_eq_false_iff_ne]; omega
    rw [ih h.2]
    simp [hb, hne]

set_option maxRecDepth 100000 in
theorem findbyte (b o n c : Nat) (xs : List Int) (cv : Int) (w : World) (hx : xs.length = n)
    (hc : ∀ i, i < n → w.cell? ⟨b, o + i, none⟩ = some (.int .u8 (xs.getD i 0))) :
    Calls Tryz.prog 200 #[.slice (some ⟨b, o, none⟩) n c, .int .u8 cv] w fun e w' => e = .returned (.int .i64 (Lib.indexByte (Lib.bytesOf xs) cv.toNat.toUInt8)) ∧ w = w' := by
  go_enter Tryz.func200, Tryz.ntmps200
  go_wp2
  rw [run_callFunc_extern Tryz.func206 (by kernel_rfl) (by kernel_rfl) (by kernel_rfl) (e := Extern.BytealgIndexByte.indexByte) (by kernel_rfl), Lib.run_indexByteSlice w b o n c xs hx hc cv]
  simp only [Result.andThen]
  rw [Oper.upon_value]
  go_wp2
  go_ret
  exact ⟨rfl, rfl⟩

/-- bytes.IndexByte of a line feed over bytes that lie in a row. -/
theorem findlf (w : World) (RB r n cap : Nat) (C : Array Value) (l : List UInt8) (hR : Blk w RB C 5) (hl : Lies C r l) (hn : n = l.length) :
    Calls Tryz.prog 200 #[.slice (some ⟨RB, r, none⟩) n cap, .int .u8 10] w fun e w' => e = .returned (.int .i64 (Lib.indexByte l 10)) ∧ w = w' := by
  subst hn
  have h := findbyte RB r l.length cap (l.map fun b => (b.toNat : Int)) 10 w (by simp) (fun i hi => by
    have := hl i l[i] (by simp [hi])
    rw [hR.cell, this]
    simp [List.getD, hi])
  have hb : Lib.bytesOf (l.map fun b => (b.toNat : Int)) = l := by
    unfold Lib.bytesOf
    rw [List.map_map]
    have : ((fun n : Int => UInt8.ofNat n.toNat) ∘ fun b : UInt8 => (b.toNat : Int)) = id := by funext b; simp
    rw [this, List.map_id]
  rw [hb] at h
  exact h

variable {w : World} {c : Ids} {s : St}

theorem buffered (w : World) (BR : Nat) (r q : Nat) (a b d e f : Value) (hc : ∀ i, w.cell? ⟨BR, i, none⟩ = #[a, b, .int .i64 r, .int .i64 q, d, e, f][i]?) (hq : r ≤ q) (hq2 : q ≤ 4096) :
    Calls Tryz.prog 202 #[ptr BR] w fun e w' => e = .returned (.int .i64 (q - r)) ∧ ∃ n, w.drewN n = w' := by
  go_enter Tryz.func202, Tryz.ntmps202
  go_wp2
  go_quiet (fail)
  go_wp2
  go_ret
  exact ⟨rfl, _, rfl⟩

theorem fill_end {w0 w1 : World} (h : Inv w c s) (hl : s.inp.length ≤ 2000) {lb lr : Int} {C : Array Value} (hw0 : Only (fun _ => False) w w0)
    (o1 : Only (fun k => k = c.W ∨ k = c.L ∨ k = c.RB) w0 w1) (hC : C.size = 4096)
    (hb1 : Blk w1 c.BR #[.slice (some ⟨c.RB, 0, none⟩) 4096 4096, c.rwc, .int .i64 0, .int .i64 0, .nilIface, .int .i64 lb, .int .i64 lr] 255)
    (hW1 : Blk w1 c.W #[str [], s.sv, .bool false] 54) (hR1 : Blk w1 c.RB (putAt C 0 s.inp) 5) {k1 : Nat} (hk1 : k1 ≤ 2000) (hL1 : Blk w1 c.L #[.iface 51 (ptr c.W), .int .i64 2000, .int .i64 k1] 118) :
    Inv (w1.setCell ⟨c.BR, 3, none⟩ (.int .i64 s.inp.length)) c { s with inp := [], rest := s.inp } ∧ Only (fun k => k = c.W ∨ k = c.L ∨ k = c.RB ∨ k = c.BR) w (w1.setCell ⟨c.BR, 3, none⟩ (.int .i64 s.inp.length)) ∧
      ∃ lb lr : Int, Blk (w1.setCell ⟨c.BR, 3, none⟩ (.int .i64 s.inp.length)) c.BR #[.slice (some ⟨c.RB, 0, none⟩) 4096 4096, c.rwc, .int .i64 0, .int .i64 s.inp.length, .nilIface, .int .i64 lb, .int .i64 lr] 255 ∧ ∃ C, Blk (w1.setCell ⟨c.BR, 3, none⟩ (.int .i64 s.inp.length)) c.RB C 5 ∧ C.size = 4096 ∧ Lies C 0 s.inp := by
  have ho : Only (fun k => k = c.W ∨ k = c.L ∨ k = c.RB ∨ k = c.BR) w (w1.setCell ⟨c.BR, 3, none⟩ (.int .i64 s.inp.length)) :=
    ((hw0.mono (fun _ f => f.elim)).trans (o1.mono (fun k hk => hk.elim .inl (fun hk => .inr (hk.elim .inl (fun hk => .inr (.inl hk))))))).setCell _ _ (fun _ => .inr (.inr (.inr rfl)))
  have hb2 := hb1.set 3 (.int .i64 s.inp.length)
  have hs : (putAt C 0 s.inp).size = 4096 := by rw [put_size (C := C) (k := 0) s.inp (by omega)]; exact hC
  have hl2 : Lies (putAt C 0 s.inp) 0 s.inp := Lies.put (Lies.nil C 0) (k := 0) rfl s.inp (by omega)
  have hR2 := hR1.other (a := ⟨c.BR, 3, none⟩) (by exact h.n_BR_RB.symm) (.int .i64 s.inp.length)
  exact ⟨h.fill ho s.inp (hW1.other (by exact h.n_W_BR) _) ⟨k1, hL1.other (by exact h.n_L_BR) _, hk1⟩ ⟨0, lb, lr, by simpa using hb2, by simp; omega, _, hR2, hs, hl2⟩, ho, lb, lr, by simpa using hb2, _, hR2, hs, hl2⟩

set_option maxHeartbeats 4000000 in
theorem fill (h : Inv w c s) (hi : s.inp ≠ []) :
    Calls Tryz.prog 203 #[ptr c.BR] w fun e w' => e = .returned (.tuple #[]) ∧ Inv w' c { s with inp := [], rest := s.inp } ∧ Only (fun k => k = c.W ∨ k = c.L ∨ k = c.RB ∨ k = c.BR) w w' ∧
      ∃ lb lr : Int, Blk w' c.BR #[.slice (some ⟨c.RB, 0, none⟩) 4096 4096, c.rwc, .int .i64 0, .int .i64 s.inp.length, .nilIface, .int .i64 lb, .int .i64 lr] 255 ∧ ∃ C, Blk w' c.RB C 5 ∧ C.size = 4096 ∧ Lies C 0 s.inp := by
  obtain ⟨k, hk, hl, hk0⟩ := h.lim
  obtain rfl := hk0 hi
  rw [Nat.zero_add] at hl
  obtain ⟨r, lb, lr, hbr, h1, h2, C, hR, hC, hL⟩ := h.br
  obtain ⟨rfl, hr⟩ := h2 hi
  rw [hr] at hbr
  have hbr : Blk w c.BR #[.slice (some ⟨c.RB, 0, none⟩) 4096 4096, c.rwc, .int .i64 0, .int .i64 0, .nilIface, .int .i64 lb, .int .i64 lr] 255 := by simpa using hbr
  have hc := hbr.cell
  unfold Ids.rwc at hc
  have hf := hbr.free
  have hpos : s.inp.length ≠ 0 := fun e => hi (List.eq_nil_of_length_eq_zero e)
  have hp1 : 0 < s.inp.length := by omega
  clear hpos
  go_enter Tryz.func203, Tryz.ntmps203
  go_wp2_with fail
  go_quiet (fail)
  go_wp2_with fail
  refine wp_loop_rounds 1 ?_
  rw [rounds_succ]
  go_wp2_with fail
  go_region_with (go_at_call 231; refine (limread _ c.L c.W c.RB s.inp s.sv C (hk.drewN _) (h.wire.drewN _) (hR.drewN _) hC hi hl).mono ?_; rintro e w1 ⟨rfl, o1, hW1, hR1, k1, hk1, hL1⟩)
  all_goals
    have nW : c.BR ≠ c.W := h.n_W_BR.symm
    have nL : c.BR ≠ c.L := h.n_L_BR.symm
    have nR : c.BR ≠ c.RB := h.n_BR_RB
    have hb1 := o1.blk (hbr.drewN _) (fun e => e.elim nW (fun e => e.elim nL nR))
    have hc1 := hb1.cell
    have hf1 := hb1.free
    clear hc hf
    have HB := Lib.hid hb1; clear hb1
    have HL1 := Lib.hid hL1; clear hL1
    have HW1 := Lib.hid hW1; clear hW1
    have HR1 := Lib.hid hR1; clear hR1
    have HO := Lib.hid o1; clear o1
    go_wp2
    go_returns
    exact ⟨rfl, fill_end h hl ((Only.refl _ _).drewN _) HO.out hC HB.out HW1.out HR1.out hk1 HL1.out⟩
end Go.Proofs.YtejckkeahmpcmaaGreatDoor
