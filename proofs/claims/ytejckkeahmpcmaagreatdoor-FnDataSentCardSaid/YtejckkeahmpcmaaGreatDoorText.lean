/- A line of the server's, as textproto reads it. No statement of the seat is proved here. -/
import Derived.Test.YtejckkeahmpcmaaGreatDoorLine
import Derived.LaidEql
namespace Go.Proofs.YtejckkeahmpcmaaGreatDoor
open Go.RowKit
set_option linter.unusedVariables false
set_option maxHeartbeats 400000

/-- bufio.ErrBufferFull holds an error. -/
def Eb (w : World) : Prop := ∃ (t : TypeId) (v : Value), Blk w 10 #[.iface t v] 89
theorem Eb.only {S : Nat → Prop} {a b : World} (h : Eb a) (ho : Only S a b) (hn : ¬ S 10) : Eb b := by
  obtain ⟨t, v, hb⟩ := h; exact ⟨t, v, ho.blk hb hn⟩
theorem Eb.not {w : World} {c : Ids} {s : St} (h : Eb w) (hi : Inv w c s) : ¬ May c s.sv 10 := by
  obtain ⟨t, v, hb⟩ := h; exact hi.may_not hb (by simp)
theorem Eb.step {w w' : World} {c : Ids} {s : St} {v' : Value} (h : Eb w) (hi : Inv w c s) (hs : Step c w s.sv w' v') : Eb w' := h.only hs.only (h.not hi)

/-- ReadSlice hands back the line l, its end too. -/
def Slices (w : World) (BR RB : Nat) (l : List UInt8) (Q : World → Prop) : Prop :=
  Calls Tryz.prog 196 #[ptr BR, .int .u8 10] w fun e w' => ∃ r cap : Nat, e = .returned (.tuple #[.slice (some ⟨RB, r, none⟩) l.length cap, .nilIface]) ∧ Q w' ∧ Eb w' ∧ ∃ C, Blk w' RB C 5 ∧ C.size = 4096 ∧ Lies C r l ∧ r + l.length ≤ 4096 ∧ l.length ≤ cap

set_option maxRecDepth 20000 in
theorem readline (w : World) (BR RB : Nat) (l : List UInt8) (hl : l ≠ []) (Q : World → Prop) (h : Slices w BR RB (l ++ [13, 10]) Q) :
    Calls Tryz.prog 186 #[ptr BR] w fun e w' => ∃ r cap : Nat, e = .returned (.tuple #[.slice (some ⟨RB, r, none⟩) l.length cap, .bool false, .nilIface]) ∧ Q w' ∧ ∃ C, Blk w' RB C 5 ∧ C.size = 4096 ∧ Lies C r l ∧ r + l.length ≤ 4096 := by
  have H := Lib.hid h; clear h
  have hpos : 0 < l.length := List.length_pos_iff.2 hl
  clear hl
  have he := fun (t : TypeId) (v : Value) (W : World) => run_eql_iface_nil_left (P := Tryz.prog) (w := W) (ti := 89) t v Tryz.underlying89
  go_enter Tryz.func186, Tryz.ntmps186
  go_wp2_with fail
  refine (show Calls Tryz.prog 196 #[ptr BR, .int .u8 10] w _ from H.out).mono ?_
  rintro e w1 ⟨r, cap, rfl, hQ, ⟨t, v, hb⟩, C, hR, hC, hL, hr, hcap⟩
  have hlen : (l ++ [13, 10]).length = l.length + 2 := by simp
  rw [hlen] at hr hcap ⊢
  have hc := hb.cell
  have HQ := Lib.hid hQ; clear hQ
  have h13 : w1.cell? ⟨RB, r + l.length, none⟩ = some (.int .u8 13) := by
    have := hL l.length 13 (by simp)
    rw [hR.cell]; exact this
  have h10 : w1.cell? ⟨RB, r + (l.length + 1), none⟩ = some (.int .u8 10) := by
    have := hL (l.length + 1) 10 (by simp)
    rw [hR.cell]; exact this
  have HL := Lib.hid hL; clear hL
  have k1 : (l.length : Int) + 2 ≤ 4096 := by omega
  have k2 : (l.length : Int) ≤ cap := by omega
  go_wp2_with fail
  go_ret3
  refine ⟨r, cap, rfl, HQ.out, C, hR, hC, ?_, by omega⟩
  intro i b hb
  refine HL.out i b ?_
  have hi2 : i < l.length := by
    rcases Nat.lt_or_ge i l.length with h' | h'
    · exact h'
    · rw [List.getElem?_eq_none h'] at hb; cases hb
  rw [List.getElem?_append_left hi2]; exact hb
/-- ReadLine hands back the line l. -/
def Lines (w : World) (BR RB : Nat) (l : List UInt8) (Q : World → Prop) : Prop :=
  Calls Tryz.prog 186 #[ptr BR] w fun e w' => ∃ r cap : Nat, e = .returned (.tuple #[.slice (some ⟨RB, r, none⟩) l.length cap, .bool false, .nilIface]) ∧ Q w' ∧ ∃ C, Blk w' RB C 5 ∧ C.size = 4096 ∧ Lies C r l ∧ r + l.length ≤ 4096

theorem owned_cells {w : World} {g : Nat} {l : List UInt8} {cur : Array Value} (hh : Blk w g cur 5) (htake : cur.toList.take (l.length * 1) = cellsOf l) (j : Nat) (hj : j < l.length) : w.cell? ((⟨g, 0, none⟩ : Addr).add j) = some (.int .u8 (l[j].toNat : Int)) := by
  have e : (⟨g, 0, none⟩ : Addr).add j = ⟨g, j, none⟩ := by unfold Addr.add; split <;> simp_all
  have h3 : (cellsOf l)[j]? = some (.int .u8 l[j].toNat) := by rw [cellsOf_get]; simp [hj]
  rw [← htake, List.getElem?_take_of_lt (by omega)] at h3
  rw [e, hh.cell]
  simpa using h3

theorem owned_string_at {P : Program} (w : World) (src dst e : TypeId) (h1 : P.underlying src = some (.slice e)) (h2 : P.underlying e = some (.int .u8)) (h3 : P.underlying dst = some .string) {base : Nat} {p : Option Addr} {cap : Nat} {l : List UInt8} (hl : l ≠ []) (h : w.ownsRow base 5 1 (.slice p l.length cap) l.length (cellsOf l)) :
    (convert src dst (.slice p l.length cap)).run P w = .ok (str l) w := by
  obtain ⟨_, h2'⟩ := h
  rcases h2' with ⟨hv, h0⟩ | ⟨g, cap', cur, hv, hg, hh, hn, _, hcs, htake⟩
  · exact absurd (List.eq_nil_of_length_eq_zero h0) hl
  · injection hv with hp _ hc
    rw [hp]
    exact run_convert_bytes_back w src dst e ⟨g, 0, none⟩ cap l h1 h2 h3 (owned_cells hh htake)

theorem owned_string {w : World} {base : Nat} {p : Option Addr} {cap : Nat} {l : List UInt8} (hl : l ≠ []) (h : w.ownsRow base 5 1 (.slice p l.length cap) l.length (cellsOf l)) :
    (convert 52 9 (.slice p l.length cap)).run Tryz.prog w = .ok (str l) w :=
  owned_string_at w 52 9 5 Tryz.underlying52 Tryz.underlying5 Tryz.underlying9 hl h

theorem tpline (w : World) (TC BR RB : Nat) (a b d : Value) (l : List UInt8) (hl : l ≠ []) (Q : World → Prop) (hc : ∀ i, w.cell? ⟨TC, i, none⟩ = #[ptr BR, a, b, d][i]?) (h : Lines w BR RB l Q) :
    Calls Tryz.prog 169 #[ptr TC] w fun e w' => e = .returned (.tuple #[str l, .nilIface]) ∧ ∃ w1, Q w1 ∧ Only (fun _ => False) w1 w' := by
  have H := Lib.hid h; clear h
  have HNE := Lib.hid hl; clear hl
  obtain ⟨i0, hi, hz0, hz1, hz2⟩ := info_parts info5
  go_enter Tryz.func169, Tryz.ntmps169
  go_wp2_with fail
  refine wp_loop_rounds 1 ?_
  rw [rounds_succ]
  go_wp2_with fail
  refine (show Calls Tryz.prog 186 #[ptr BR] w _ from H.out).mono ?_
  rintro e w1 ⟨r, cap, rfl, hQ, C, hR, hC, hL, hr⟩
  have HQ := Lib.hid hQ; clear hQ
  have hnews : ∀ j u, (cellsOf l)[j]? = some u → w1.cell? ((⟨RB, r, none⟩ : Addr).add j) = some u := by
    intro j u hj
    rw [cellsOf_get] at hj
    cases hb : l[j]? with
    | none => rw [hb] at hj; cases hj
    | some b =>
      rw [hb] at hj; cases hj
      have := hL j b hb
      have e : (⟨RB, r, none⟩ : Addr).add j = ⟨RB, r + j, none⟩ := by unfold Addr.add; split <;> simp_all
      rw [e, hR.cell]; exact this
  have HN := Lib.hid hnews; clear hnews
  clear hL
  have K1 : Hid ((cellsOf l).length = l.length * 1) := by show _ = _; rw [cellsOf_length]; omega
  have K2 : Hid (0 + l.length ≤ maxLen) := by show _ ≤ _; unfold maxLen; omega
  have K3 : Hid ((0 + l.length) * 1 ≤ 140737488355328) := by show _ ≤ _; omega
  have hown := World.ownsRow_nil w1 w1.heap.size 5 1
  go_wp2_with (at_builtin; refine wpList_append_own2 rfl _ _ 52 rfl w1.heap.size 5 i0 (.int .u8 0) 1 1 Tryz.underlying52 hi hz0 hz1 hz2 rfl (by decide) (.slice none 0 0) 0 _ rfl hown ⟨RB, r, none⟩ l.length cap (cellsOf l) rfl K1.out HN.out (cellsOf_one _) K2.out K3.out (Nat.le_refl _) ?_; intro p cap w2 HO HG HK; rw [Nat.zero_add, List.nil_append] at HO; have ho1 : Only (fun _ => False) w1 w2 := (Only.refl _ _).grown HG.out (fun k hk _ => by cases hk); have HH := Lib.hid ho1; clear ho1; have hconv := owned_string HNE.out HO.out)
  go_ret2
  exact ⟨rfl, w1, HQ.out, HH.out⟩

end Go.Proofs.YtejckkeahmpcmaaGreatDoor
