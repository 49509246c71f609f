/- impl's Called$1, tried, tried$1. No statement of the seat is proved here. -/
import Derived.Test.YtejckkeahmpcmaaGreatDoorAll
import Derived.Defers
import Derived.Recover
namespace Go.Proofs.YtejckkeahmpcmaaGreatDoor
open Go.RowKit
set_option linter.unusedVariables false
set_option maxHeartbeats 2000000

/-- What stands behind the call that Called makes. B: the world's size ahead of all. -/
structure Done (B : Nat) (w' : World) (W bt bf : Nat) (l : List UInt8) : Prop where
  told : ∃ v cap, Blk w' bt #[.slice v 3 cap] 24 ∧ w'.ownsRow B 36 9 (.slice v 3 cap) 3 (toldc [] ++ toldc [] ++ toldc [120]).toList
  fine : Blk w' bf #[.bool true] 4
  wire : ∃ sv, Blk w' W #[str [], sv, .bool false] 54 ∧ w'.ownsRow B 5 1 sv (sentAll l).length (cellsOf (sentAll l))

theorem Done.on {B : Nat} {w w' : World} {W bt bf : Nat} {l : List UInt8} (h : Done B w W bt bf l) {S : Nat → Prop} (o : Only S w w') (ht : ¬ S bt) (hf : ¬ S bf) (hW : ¬ S W) (hB : ∀ k, S k → k < B) : Done B w' W bt bf l := by
  obtain ⟨v, cap, h1, h2⟩ := h.told
  obtain ⟨sv, h3, h4⟩ := h.wire
  exact ⟨⟨v, cap, o.blk h1 ht, o.own h2 (fun k hk s => by have := (h2.lt k hk).1; have := hB k s; omega)⟩, o.blk h.fine hf, ⟨sv, o.blk h3 hW, o.own h4 (fun k hk s => by have := (h4.lt k hk).1; have := hB k s; omega)⟩⟩

theorem Done.le {B B' : Nat} {w : World} {W bt bf : Nat} {l : List UInt8} (h : Done B w W bt bf l) (hB : B' ≤ B) : Done B' w W bt bf l := by
  obtain ⟨v, cap, h1, h2⟩ := h.told
  obtain ⟨sv, h3, h4⟩ := h.wire
  exact ⟨⟨v, cap, h1, own_base h2 hB⟩, h.fine, ⟨sv, h3, own_base h4 hB⟩⟩

theorem closure (w : World) (he : Eb w) (W bl b3 b4 bt bf g cap : Nat) (l : List UInt8) (hl : l.length ≤ 500) (h13 : (13 : UInt8) ∉ l) (hW : Blk w W #[str server, .slice none 0 0, .bool false] 54) (hg : Blk w g (calls3 l) 33)
    (hbl : Blk w bl #[ptr W] 51) (hb3 : Blk w b3 #[.bool false] 4) (hb4 : Blk w b4 #[.slice (some ⟨g, 0, none⟩) 3 cap] 22) (hbt : Blk w bt #[.slice none 0 0] 24) (hbf : Blk w bf #[.bool false] 4) :
    Calls Tryz.prog 16 #[ptr bl, ptr b3, ptr b4, ptr bt, ptr bf] w fun e w' => e = .returned (.tuple #[]) ∧ Done w.heap.size w' W bt bf l ∧ Only (fun k => k = W ∨ k = bt ∨ k = bf) w w' := by
  have c1 := hbl.cell
  have c2 := hb3.cell
  have c3 := hb4.cell
  have n1 : W ≠ bt := Blk.ne hW hbt (by decide)
  have n2 : W ≠ bf := Blk.ne hW hbf (by decide)
  have n3 : bt ≠ bf := Blk.ne hbt hbf (by decide)
  have lt1 := hbt.lt
  have lt2 := hbf.lt
  have ltW := hW.lt
  have HT := Lib.hid hbt; clear hbt
  have HF := Lib.hid hbf; clear hbf
  have HG := Lib.hid hg; clear hg
  have HW := Lib.hid hW; clear hW
  clear hbl hb3 hb4
  have H13 := Lib.hid h13; clear h13
  go_enter Tryz.func16, Tryz.ntmps16
  go_wp2_with fail
  refine (all w he W g cap l hl H13.out HW.out HG.out).mono ?_
  rintro e w1 ⟨v, cap', rfl, hown, ⟨sv, hw1, ho1⟩, o1⟩
  have hT1 := o1.blk HT.out (fun e => n1 e.symm)
  have hF1 := o1.blk HF.out (fun e => n2 e.symm)
  have ct := hT1.cell
  have ft := hT1.free
  have cf := hF1.cell
  have ff := hF1.free
  have HO1 := Lib.hid o1; clear o1
  have HT1 := Lib.hid hT1; clear hT1
  have HF1 := Lib.hid hF1; clear hF1
  have HOW := Lib.hid hown; clear hown
  have HW1 := Lib.hid hw1; clear hw1
  have HV := Lib.hid ho1; clear ho1
  clear c1 c2 c3
  go_wp2_with fail
  go_returns
  have oS : Only (fun k => k = bt ∨ k = bf) w1 ((w1.setCell ⟨bt, 0, none⟩ (.slice v 3 cap')).setCell ⟨bf, 0, none⟩ (.bool true)) := ((Only.refl _ _).setCell _ _ (fun _ => .inl rfl)).setCell _ _ (fun _ => .inr rfl)
  have hlt : ∀ k, (k = bt ∨ k = bf) → k < w.heap.size := fun k hk => by rcases hk with rfl | rfl <;> assumption
  refine ⟨rfl, ⟨⟨v, cap', ?_, ?_⟩, ?_, ⟨sv, ?_, ?_⟩⟩, ?_⟩
  · simpa using (HT1.out.set 0 (.slice v 3 cap')).other (a := ⟨bf, 0, none⟩) n3 (.bool true)
  · exact oS.own HOW.out (fun k hk s => by have := (HOW.out.lt k hk).1; have := hlt k s; omega)
  · simpa using (HF1.out.other (a := ⟨bt, 0, none⟩) n3.symm (.slice v 3 cap')).set 0 (.bool true)
  · exact oS.blk HW1.out (fun s => s.elim n1 n2)
  · exact oS.own HV.out (fun k hk s => by have := (HV.out.lt k hk).1; have := hlt k s; omega)
  · exact (HO1.out.mono (fun k h => .inl h)).trans (oS.mono (fun k h => .inr h))

theorem tried_idle (p : Addr) (w : World) :
    CallsD Tryz.prog 30 #[.pointer (some p)] .returning w fun e u' w' => e = .returned (.tuple #[]) ∧ u' = .returning ∧ w' = w := by
  refine callsD_of_wpS Tryz.func30 rfl fun c₀ cs hu => ?_
  apply wpS_seq
  apply wpS_region
  simp [wpOpsS, go_sem, recoverD, hu, Tryz.ntmps30, Exit.thenS]
  refine wpS_cond (t := false) (by simp [Act.eval, Array.replicate]) ?_
  simp only [Bool.false_eq_true, if_false]
  refine wpS_of_wp (wp_skip ?_)
  cases c₀
  simp_all [bodyPostS, results, Tryz.results30]
theorem tried (w : World) (he : Eb w) (W bl b3 b4 bt bf g cap : Nat) (l : List UInt8) (hl : l.length ≤ 500) (h13 : (13 : UInt8) ∉ l) (hW : Blk w W #[str server, .slice none 0 0, .bool false] 54) (hg : Blk w g (calls3 l) 33)
    (hbl : Blk w bl #[ptr W] 51) (hb3 : Blk w b3 #[.bool false] 4) (hb4 : Blk w b4 #[.slice (some ⟨g, 0, none⟩) 3 cap] 22) (hbt : Blk w bt #[.slice none 0 0] 24) (hbf : Blk w bf #[.bool false] 4) :
    Calls Tryz.prog 15 #[.func (Fn.func 16) #[] #[ptr bl, ptr b3, ptr b4, ptr bt, ptr bf]] w fun e w' => e = .returned (.bool true) ∧ Done w.heap.size w' W bt bf l ∧ Only (fun k => k = W ∨ k = bt ∨ k = bf) w w' := by
  have hmf : ∀ (fn : Fn) (first cap : Array Value) (w : World), (Instr.makeFunc fn first cap).run Tryz.prog w = .ok (.func fn first cap) w := fun _ _ _ _ => rfl
  have oA : Only (fun _ => False) w (w.alloc (.cells #[.bool false] 4)) := (Only.refl _ _).alloc _
  have he1 := he.only oA (fun f => f)
  have ltW := hW.lt
  have ltt := hbt.lt
  have ltf := hbf.lt
  have x1 := Lib.hid (closure _ he1 W bl b3 b4 bt bf g cap l hl h13 (hW.alloc _) (hg.alloc _) (hbl.alloc _) (hb3.alloc _) (hb4.alloc _) (hbt.alloc _) (hbf.alloc _))
  clear hW hg hbl hb3 hb4 hbt hbf h13
  go_enter_defers Tryz.func15, Tryz.ntmps15
  go_wp2_with fail
  refine (x1.out).mono ?_
  rintro e w1 ⟨rfl, hd, o1⟩
  have hR := o1.blk (Blk.new w #[.bool false] 4) (fun k => by omega)
  have cR := hR.cell
  have fR := hR.free
  have HD := Lib.hid hd; clear hd
  have HO := Lib.hid o1; clear o1
  have HR := Lib.hid hR; clear hR
  clear x1
  go_wp2_with fail
  refine leaves_cons (f := 30) (args := #[.pointer (some ⟨w.heap.size, 0, none⟩)]) (by simp) (by simp [go_sem]) ?_
  refine (tried_idle ⟨w.heap.size, 0, none⟩ _).mono ?_
  rintro e u' w'' ⟨rfl, rfl, rfl⟩
  simp [Leaves, settle, results, Tryz.results15, go_sem, cR]
  have oS : Only (fun k => k = w.heap.size) w1 (w1.setCell ⟨w.heap.size, 0, none⟩ (.bool true)) := (Only.refl _ _).setCell _ _ (fun _ => rfl)
  have HD' := HD.out
  rw [World.size_alloc] at HD'
  refine ⟨(HD'.on oS (by omega) (by omega) (by omega) (fun k hk => by omega)).le (by omega), ?_⟩
  refine ((Only.refl _ _).alloc _).trans' (HO.out.mono (fun k hk => hk)) (fun i hi h => h) |>.trans' oS (fun i hi h => by omega)
end Go.Proofs.YtejckkeahmpcmaaGreatDoor
