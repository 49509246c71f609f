/- impl's Called, at the three calls and the server's text of the statement. No statement of the seat is proved here. -/
import Derived.Test.YtejckkeahmpcmaaGreatDoorTried
namespace Go.Proofs.YtejckkeahmpcmaaGreatDoor
open Go.RowKit
set_option linter.unusedVariables false
set_option maxHeartbeats 2000000

theorem own_string {w : World} {B : Nat} {sv : Value} {l : List UInt8} (h : w.ownsRow B 5 1 sv l.length (cellsOf l)) (hl : l ≠ []) :
    ∃ a cap, sv = .slice (some a) l.length cap ∧ (convert 52 9 (.slice (some a) l.length cap)).run Tryz.prog w.drew = .ok (str l) w.drew := by
  obtain ⟨h1, h2⟩ := h
  rcases h2 with ⟨_, h3⟩ | ⟨g, cap, cur, hv, hg, hh, hn, hm, hc, ht⟩
  · exact absurd (List.eq_nil_of_length_eq_zero h3) hl
  · refine ⟨⟨g, 0, none⟩, cap, hv, ?_⟩
    refine run_convert_bytes_back w.drew 52 9 5 ⟨g, 0, none⟩ cap l Tryz.underlying52 Tryz.underlying5 Tryz.underlying9 ?_
    intro j hj
    have e : (⟨g, 0, none⟩ : Addr).add j = ⟨g, j, none⟩ := by unfold Addr.add; split <;> simp_all
    have hb : Blk w.drew g cur 5 := hh
    rw [e, hb.cell]
    have hj2 := congrArg (fun x => x[j]?) ht
    simp only [cellsOf_get, List.getElem?_eq_getElem hj, Option.map_some] at hj2
    rw [List.getElem?_take] at hj2
    rw [if_pos (by omega)] at hj2
    simpa using hj2

theorem sentAll_ne (l : List UInt8) : sentAll l ≠ [] := by simp [sentAll]

abbrev k1 (w : World) : World := w.alloc (.cells #[.bool false] 4)
abbrev k2 (w : World) (g cap : Nat) : World := (k1 w).alloc (.cells #[.slice (some ⟨g, 0, none⟩) 3 cap] 22)
abbrev k3 (w : World) (g cap : Nat) : World := (k2 w g cap).alloc (.cells #[.slice none 0 0] 24)
abbrev k4 (w : World) (g cap : Nat) : World := (k3 w g cap).alloc (.cells #[str server, .slice none 0 0, .bool false] 54)
abbrev k5 (w : World) (g cap : Nat) : World := (k4 w g cap).alloc (.cells #[ptr (w.heap.size + 1 + 1 + 1)] 51)
abbrev k6 (w : World) (g cap : Nat) : World := (k5 w g cap).alloc (.cells #[.bool false] 4)
theorem k6_only (w : World) (g cap : Nat) : Only (fun _ => False) w (k6 w g cap) := ((((((Only.refl _ _).alloc _).alloc _).alloc _).alloc _).alloc _).alloc _
theorem s1 (w : World) : (k1 w).heap.size = w.heap.size + 1 := by simp
theorem s2 (w : World) (g cap : Nat) : (k2 w g cap).heap.size = w.heap.size + 1 + 1 := by simp
theorem s3 (w : World) (g cap : Nat) : (k3 w g cap).heap.size = w.heap.size + 1 + 1 + 1 := by simp
theorem s4 (w : World) (g cap : Nat) : (k4 w g cap).heap.size = w.heap.size + 1 + 1 + 1 + 1 := by simp
theorem s5 (w : World) (g cap : Nat) : (k5 w g cap).heap.size = w.heap.size + 1 + 1 + 1 + 1 + 1 := by simp
theorem s6 (w : World) (g cap : Nat) : (k6 w g cap).heap.size = w.heap.size + 1 + 1 + 1 + 1 + 1 + 1 := by simp
theorem k6_3 (w : World) (g cap : Nat) : Blk (k6 w g cap) w.heap.size #[.bool false] 4 := (((((Blk.new w _ _).alloc _).alloc _).alloc _).alloc _).alloc _
theorem k6_4 (w : World) (g cap : Nat) : Blk (k6 w g cap) (w.heap.size + 1) #[.slice (some ⟨g, 0, none⟩) 3 cap] 22 := by
  have := Blk.new (k1 w) #[.slice (some ⟨g, 0, none⟩) 3 cap] 22
  rw [s1] at this
  exact (((this.alloc _).alloc _).alloc _).alloc _
theorem k6_t (w : World) (g cap : Nat) : Blk (k6 w g cap) (w.heap.size + 1 + 1) #[.slice none 0 0] 24 := by
  have := Blk.new (k2 w g cap) #[.slice none 0 0] 24
  rw [s2] at this
  exact ((this.alloc _).alloc _).alloc _
theorem k6_W (w : World) (g cap : Nat) : Blk (k6 w g cap) (w.heap.size + 1 + 1 + 1) #[str server, .slice none 0 0, .bool false] 54 := by
  have := Blk.new (k3 w g cap) #[str server, .slice none 0 0, .bool false] 54
  rw [s3] at this
  exact (this.alloc _).alloc _
theorem k6_l (w : World) (g cap : Nat) : Blk (k6 w g cap) (w.heap.size + 1 + 1 + 1 + 1) #[ptr (w.heap.size + 1 + 1 + 1)] 51 := by
  have := Blk.new (k4 w g cap) #[ptr (w.heap.size + 1 + 1 + 1)] 51
  rw [s4] at this
  exact this.alloc _
theorem k6_f (w : World) (g cap : Nat) : Blk (k6 w g cap) (w.heap.size + 1 + 1 + 1 + 1 + 1) #[.bool false] 4 := by
  have := Blk.new (k5 w g cap) #[.bool false] 4
  rw [s5] at this
  exact this

set_option maxRecDepth 100000 in
theorem called (w : World) (he : Eb w) (g cap : Nat) (l : List UInt8) (hl : l.length ≤ 500) (h13 : (13 : UInt8) ∉ l) (hg : Blk w g (calls3 l) 33) :
    Calls Tryz.prog 9 #[.bool false, .slice (some ⟨g, 0, none⟩) 3 cap, str server] w fun e w' => ∃ v cap', e = .returned (.tuple #[str (sentAll l), .slice v 3 cap', .bool true]) ∧
      w'.ownsRow w.heap.size 36 9 (.slice v 3 cap') 3 (toldc [] ++ toldc [] ++ toldc [120]).toList ∧ Only (fun _ => False) w w' := by
  have hmf : ∀ (fn : Fn) (first cap : Array Value) (w : World), (Instr.makeFunc fn first cap).run Tryz.prog w = .ok (.func fn first cap) w := fun _ _ _ _ => rfl
  have HG := Lib.hid hg; clear hg
  have H13 := Lib.hid h13; clear h13
  go_enter Tryz.func9, Tryz.ntmps9
  go_wp2_with fail
  have o6 := k6_only w g cap
  refine (tried (k6 w g cap) (he.only o6 (fun f => f)) (w.heap.size + 1 + 1 + 1) (w.heap.size + 1 + 1 + 1 + 1) w.heap.size (w.heap.size + 1) (w.heap.size + 1 + 1) (w.heap.size + 1 + 1 + 1 + 1 + 1) g cap l hl H13.out
    (k6_W _ _ _) (o6.blk HG.out (fun f => f)) (k6_l _ _ _) (k6_3 _ _ _) (k6_4 _ _ _) (k6_t _ _ _) (k6_f _ _ _)).mono ?_
  rintro e w1 ⟨rfl, hd, o1⟩
  rw [s6] at hd
  obtain ⟨v, cap', ht, hown⟩ := hd.told
  have hf := hd.fine
  obtain ⟨sv, hw, hsv⟩ := hd.wire
  obtain ⟨a, cs, rfl, hcv⟩ := own_string hsv (sentAll_ne l)
  have hl1 := o1.blk (k6_l w g cap) (fun k => by omega)
  have c1 := hl1.cell
  have c2 := ht.cell
  have f2 := ht.free
  have c3 := hf.cell
  have c4 := hw.cell
  have oA : Only (fun _ => False) w w1 := o6.trans' o1 (fun i hi k => by omega)
  have HOWN := Lib.hid hown; clear hown
  have HA := Lib.hid oA; clear oA o6 o1
  have HT := Lib.hid ht; clear ht
  clear hf hw hl1 hd
  go_wp2_with fail
  go_region
  all_goals
    go_wp2_with fail
    refine bodyPost_ret (by simp [results, Tryz.results9, go_sem, c2]; try rfl) rfl ?_
    have oS : Only (fun k => k = w.heap.size + 1 + 1) w1 ((w1.setCell ⟨w.heap.size + 1 + 1, 0, none⟩ (.slice v 3 cap')).drew) := ((Only.refl (fun k => k = w.heap.size + 1 + 1) w1).setCell ⟨w.heap.size + 1 + 1, 0, none⟩ (.slice v 3 cap') (fun _ => rfl)).drew
    refine ⟨v, cap', rfl, ?_, HA.out.trans' oS (fun i hi k => by omega)⟩
    have h9 := own_base (b' := w.heap.size) (oS.own HOWN.out (fun k hk s => by have := (HOWN.out.lt k hk).1; omega)) (by omega)
    simpa using h9
end Go.Proofs.YtejckkeahmpcmaaGreatDoor
