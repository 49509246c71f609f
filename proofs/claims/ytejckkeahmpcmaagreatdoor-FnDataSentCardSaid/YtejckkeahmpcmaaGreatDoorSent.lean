/- impl's sent: the data of one message. No statement of the seat is proved here. -/
import Derived.Test.YtejckkeahmpcmaaGreatDoorDcwr
import Derived.Handy
namespace Go.Proofs.YtejckkeahmpcmaaGreatDoor
open Go.RowKit
set_option linter.unusedVariables false
set_option maxHeartbeats 1000000

variable {w : World} {c : Ids} {s : St}

/-- A struct stored over a whole block. -/
theorem wpList_whole {P : Program} {w : World} {ops : Array Oper} {rest : List Oper} {o : Oper} {a : Act} {Q : Exit → Act → World → Prop} (hgd : o.guard = none) (ty : TypeId) (x y : Operand) (ho : o.op = .store ty x y)
    (g : Nat) (cells : Array Value) (hx : a.eval x = .pointer (some ⟨g, 0, none⟩)) (hy : a.eval y = .agg cells)
    (t : TypeId) (old : Array Value) (hg : Blk w g old t) (hi : (P.info? ty).map (·.size) = some cells.size) (hold : old.size = cells.size) (h1 : cells.all (·.oneCell') = true)
    (h : ∀ w', Blk w' g cells t → Hid (Only (fun k => k = g) w w') → Hid (w' = w.setRow g cells) → wpList P ops Q rest (a.put o.dst undef) w') : wpList P ops Q (o :: rest) a w :=
  wpList_plain hgd fun K hK => wp_store_row ty x y ho g cells hx hy t old hg hi hold h1 (hK _ _ (h _ (hg.row cells) ((Only.refl _ _).setRow _ _ (fun _ => rfl)) rfl))

/-- A Told's cells that tell a text alone. -/
abbrev toldc (m : List UInt8) : Array Value := #[.int .i64 0, .int .i64 0, .int .i64 0, .int .i64 0, .int .i64 0, str m, .bool false, .int .i64 0, .slice none 0 0]
abbrev told (m : List UInt8) : Value := .agg (toldc m)

theorem told_info : (Tryz.prog.info? 36).map (·.size) = some 9 := by kernel_rfl
theorem told_one (m : List UInt8) : (toldc m).all (·.oneCell') = true := by simp [toldc, Value.oneCell']

theorem toldnil (w : World) : Calls Tryz.prog 45 #[.nilIface] w fun e w' => e = .returned (told []) ∧ Only (fun _ => False) w w' := by
  go_enter Tryz.func45, Tryz.ntmps45
  go_wp2_with fail
  go_returns
  exact ⟨rfl, (Only.refl _ _).alloc _⟩

set_option maxHeartbeats 4000000 in
set_option maxRecDepth 100000 in
theorem sent (h : Inv w c s) (he : Eb w) (hd : s.dot = .pointer none) (hpn : s.pnd = []) (hm : s.snt.length ≤ 30000) (l : List UInt8) (hl : l.length ≤ 500) (h13 : (13 : UInt8) ∉ l) (tail : List UInt8)
    (hs : Next s (l354 ++ 13 :: 10 :: (l250 ++ 13 :: 10 :: tail))) :
    Calls Tryz.prog 51 #[ptr c.C, .bool false, str l] w fun e w' => e = .returned (told [120]) ∧ ∃ v', Inv w' c { s with inp := [], rest := tail, sv := v', snt := (s.snt ++ (lData ++ [13, 10])) ++ (dots 0 l ++ dotend (dotst 0 l)) } ∧ Step c w s.sv w' v' := by
  have hlt10 : 10 < w.heap.size := by obtain ⟨t, v, hb⟩ := he; exact hb.lt
  have h0 := h.alloc (.cells (toldc []) 36)
  have he0 : Eb (w.alloc (.cells (toldc []) 36)) := he.only ((Only.refl (fun _ => False) w).alloc _) (fun f => f)
  have hR0 : Blk (w.alloc (.cells (toldc []) 36)) w.heap.size (toldc []) 36 := Blk.new w _ _
  have hnR := h0.may_not hR0 (by decide)
  have HS := Lib.hid hs; clear hs
  have HD := Lib.hid hd; clear hd
  have HN := Lib.hid hpn; clear hpn
  have H13 := Lib.hid h13; clear h13
  have HR0 := Lib.hid hR0; clear hR0
  have HNR := Lib.hid hnR; clear hnR
  go_enter Tryz.func51, Tryz.ntmps51
  go_wp2_with fail
  refine (data h0 he0 HD.out HN.out (by omega) _ HS.out).mono ?_
  rintro e w1 ⟨D, E, rfl, v1, h1, hD1, hE1, szD, szE, s1⟩
  have he1 := he0.step h0 s1
  have hR1 := s1.only.blk HR0.out HNR.out
  have HS1 := Lib.hid s1; clear s1
  have HD1 := Lib.hid hD1; clear hD1
  have HE1 := Lib.hid hE1; clear hE1
  have HR1 := Lib.hid hR1; clear hR1
  simp only [World.size_alloc] at szD szE
  go_wp2_with (refine wpList_bytes rfl (.tmp 33) 9 52 5 rfl Tryz.underlying9 Tryz.underlying52 Tryz.underlying5 l rfl ?_; intro cap w2 hb HO2 HSZ2; have HBY := Lib.hid hb; clear hb)
  have h2 := h1.only HO2.out (fun _ f => f.elim)
  have he2 := he1.only HO2.out (fun f => f)
  have hD2 := HO2.out.blk HD1.out (fun f => f)
  have hE2 := HO2.out.blk HE1.out (fun f => f)
  have hR2 := HO2.out.blk HR1.out (fun f => f)
  have HD2 := Lib.hid hD2; clear hD2
  have HE2 := Lib.hid hE2; clear hE2
  have HR2 := Lib.hid hR2; clear hR2
  have hng : Hid (¬ Dw c D w1.heap.size) := by
    show ¬ _
    rintro (e | e | e)
    · have := h1.all_lt c.BW (by simp [Ids.all]); omega
    · have := h1.all_lt c.WB (by simp [Ids.all]); omega
    · have := HD1.out.lt; omega
  have K1 : Hid (s.pnd.length + 2 * l.length < 4000) := by show _ < _; rw [HN.out]; simp; omega
  go_wp2_with fail
  refine (cmdwrite h2 HE2.out HD2.out w1.heap.size cap l HBY.out HSZ2.out hng.out K1.out H13.out).mono ?_
  rintro e w3 ⟨rfl, h3, hD3, o3⟩
  have he3 := he2.only o3 (fun k => by
    rcases k with e | e | e
    · exact he2.not h2 (.inl (by rw [e]; simp [Ids.all]))
    · exact he2.not h2 (.inl (by rw [e]; simp [Ids.all]))
    · omega)
  have hE3 := o3.blk HE2.out (fun k => by
    rcases k with e | e | e
    · exact h2.may_not HE2.out (by decide) (.inl (by rw [e]; simp [Ids.all]))
    · exact h2.may_not HE2.out (by decide) (.inl (by rw [e]; simp [Ids.all]))
    · exact Blk.ne HE2.out HD2.out (by decide) e)
  have hR3 := o3.blk HR2.out (fun k => by
    rcases k with e | e | e
    · exact h2.may_not HR2.out (by decide) (.inl (by rw [e]; simp [Ids.all]))
    · exact h2.may_not HR2.out (by decide) (.inl (by rw [e]; simp [Ids.all]))
    · exact Blk.ne HR2.out HD2.out (by decide) e)
  have HD3 := Lib.hid hD3; clear hD3
  have HE3 := Lib.hid hE3; clear hE3
  have HR3 := Lib.hid hR3; clear hR3
  have HO3 := Lib.hid o3; clear o3
  have sz3 := HO3.out.size
  go_wp2_with fail
  have K2 : (s.pnd ++ dots 0 l).length < 4000 := by have := dots_len l 0; rw [HN.out]; simp; omega
  have K3 : (s.snt ++ (lData ++ [13, 10])).length ≤ 50000 := by simp [lData]; omega
  refine (cwr h3 he3 rfl HE3.out HD3.out (dotst_of l 0 (.inl rfl)) K2 K3 (by omega) tail (.inl ⟨rfl, rfl⟩)).mono ?_
  rintro e w4 ⟨R, rfl, v4, h4, hR4, szR, o4, own4⟩
  have hR04 := o4.blk HR3.out (fun k => by
    rcases k with e | e
    · exact h3.may_not HR3.out (by decide) e
    · exact Blk.ne HR3.out HE3.out (by decide) e)
  have HO4 := Lib.hid o4; clear o4
  have HW4 := Lib.hid own4; clear own4
  have HR4 := Lib.hid hR4; clear hR4
  have HR04 := Lib.hid hR04; clear hR04
  have sz4 := HO4.out.size
  go_wp2_with fail
  refine (toldnil _).mono ?_
  rintro e w5 ⟨rfl, o5⟩
  have hR5 := o5.blk HR4.out (fun f => f)
  have hR05 := o5.blk HR04.out (fun f => f)
  have h5 := h4.only o5 (fun _ f => f.elim)
  have lt3 := HR3.out.lt
  have hcR := hR5.cell
  have hcR0 := hR05.cell
  have hfR0 := hR05.free
  have ltR := hR5.lt
  have ltR0 := hR05.lt
  have neR : ¬ R = w5.heap.size := by omega
  have neR0 : ¬ w.heap.size = w5.heap.size := by omega
  have neRR : ¬ w.heap.size = R := by omega
  have HR5 := Lib.hid hR5; clear hR5
  have HR05 := Lib.hid hR05; clear hR05
  have HO5 := Lib.hid o5; clear o5
  go_wp2_with (refine wpList_whole rfl 36 (.tmp 6) (.tmp 58) rfl w.heap.size (toldc [120]) rfl rfl 36 (toldc []) (HR05.out.alloc _) told_info rfl (told_one _) ?_; intro w6 hB6 HO6 HW6; have hcR6 := hB6.cell; have hfR6 := hB6.free; clear hcR0 hfR0)
  refine bodyPost_ret (by simp [results, Tryz.results51, go_sem, hcR6]; try rfl) rfl ?_
  have ltA := h.all_lt
  have h5' := h4.only HO5.out (fun _ f => f.elim)
  have nC5 : ∀ x, c.all x → x ≠ w.heap.size := fun x hx e => by have := ltA x hx; omega
  have o6 : Only (fun k => k = w.heap.size) w4 w6 := by
    refine Only.trans ?_ HO6.out
    exact ((HO5.out.mono (fun _ f => f.elim))).alloc _
  have h6 := h4.only o6 (fun k hk => by subst hk; exact h4.may_not HR04.out (by decide))
  refine ⟨rfl, v4, by simpa [HN.out, HD.out] using h6, ?_⟩
  have T1 : Step c w s.sv w1 v1 := Step.mono_left (S := fun _ => False) ((Only.refl _ _).alloc _) (fun _ f => f.elim) HS1.out
  have T2 : Step c w s.sv w3 v1 := (T1.then HO2.out (fun _ f => f.elim)).then HO3.out (fun i hi => by
    rcases hi with e | e | e
    · exact .inl (.inl (by rw [e]; simp [Ids.all]))
    · exact .inl (.inl (by rw [e]; simp [Ids.all]))
    · exact .inr (by omega))
  have T3 : Step c w s.sv w4 v4 := T2.then' HO4.out (fun i hi => hi.elim .inl (fun e => .inr (by omega))) HW4.out
  exact T3.then o6 (fun i hi => .inr (by omega))

end Go.Proofs.YtejckkeahmpcmaaGreatDoor
