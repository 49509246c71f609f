/- impl's all: the three calls of the statement over a fresh client. No statement of the seat is proved here. -/
import Derived.Test.YtejckkeahmpcmaaGreatDoorOne
import Derived.Test.YtejckkeahmpcmaaGreatDoorClient
namespace Go.Proofs.YtejckkeahmpcmaaGreatDoor
open Go.RowKit
set_option linter.unusedVariables false
set_option maxHeartbeats 2000000

variable {w : World} {c : Ids} {s : St}

theorem info36 : (Tryz.prog.info? 36).map (fun i => (i.zero, i.size, i.bytes)) = some (some (told []), 9, 96) := by kernel_rfl

theorem parts36 : ∃ i, Tryz.prog.info? 36 = some i ∧ i.zero = some (told []) ∧ i.size = 9 ∧ i.bytes = 96 := by
  have h := info36
  cases hq : Tryz.prog.info? 36 with
  | none => rw [hq] at h; cases h
  | some i => rw [hq] at h; simp only [Option.map_some, Option.some.injEq, Prod.mk.injEq] at h; exact ⟨i, rfl, h.1, h.2.1, h.2.2⟩

/-- A row of Tolds is none of the client's. -/
theorem tolds_not (h : Inv w c s) {B : Nat} {v : Value} {n : Nat} {xs : List Value} (ho : w.ownsRow B 36 9 v n xs) (k : Nat) (hk : v.ownBlock = some k) : ¬ May c s.sv k := by
  obtain ⟨_, h2⟩ := ho
  rcases h2 with ⟨rfl, _⟩ | ⟨g, cap, cur, rfl, hg, hh, _⟩
  · simp [Value.ownBlock] at hk
  · simp [Value.ownBlock] at hk; subst hk
    exact h.may_not (b := g) (cs := cur) (T := 36) hh (by decide)

/-- The three calls' cells. -/
abbrev calls3 (l : List UInt8) : Array Value := #[.int .i64 2, str [97, 64, 98], .pointer none, .pointer none, str [], .int .i64 3, str [99, 64, 100], .pointer none, .pointer none, str [], .int .i64 4, str [], .pointer none, .pointer none, str l]
theorem upto {w wa wb : World} {W : Nat} {c : Ids} {va vb : Value} (hA : Only (fun k => k = W) w wa) (hva : ∀ i, va.ownBlock = some i → w.heap.size ≤ i) (hE : ∀ k, c.all k → k = W ∨ w.heap.size ≤ k) (t : Step c wa va wb vb) :
    Only (fun k => k = W) w wb ∧ ∀ i, vb.ownBlock = some i → w.heap.size ≤ i :=
  ⟨hA.trans' t.only (fun i hi hm => hm.elim (fun h => (hE i h).elim id (fun h => absurd hi (by omega))) (fun h => absurd hi (by have := hva i h; omega))), fun i hi => (t.own i hi).elim (hva i) (fun h => Nat.le_trans hA.size h)⟩
theorem own_base {w : World} {b b' e size n : Nat} {v : Value} {xs : List Value} (h : w.ownsRow b e size v n xs) (hb : b' ≤ b) : w.ownsRow b' e size v n xs := by
  obtain ⟨h1, h2⟩ := h
  refine ⟨h1, ?_⟩
  rcases h2 with h2 | ⟨g, cap, cur, hv, hg, r⟩
  · exact .inl h2
  · exact .inr ⟨g, cap, cur, hv, Nat.le_trans hb hg, r⟩

abbrev twice (w : World) (m : List UInt8) : World := (w.alloc (.cells (toldc m) 36)).alloc (.cells (toldc m) 36)
theorem told_news (w : World) (m : List UInt8) : ∀ j u, (toldc m).toList[j]? = some u → (twice w m).cell? ((⟨w.heap.size + 1, 0, none⟩ : Addr).add j) = some u := by
  intro j u hj
  have hB : Blk (twice w m) (w.heap.size + 1) (toldc m) 36 := by
    have := Blk.new (w.alloc (.cells (toldc m) 36)) (toldc m) 36
    simpa using this
  have e : (⟨w.heap.size + 1, 0, none⟩ : Addr).add j = ⟨w.heap.size + 1, j, none⟩ := by unfold Addr.add; split <;> simp_all
  rw [e, hB.cell]; simpa using hj
theorem told_ones (m : List UInt8) : ∀ u ∈ (toldc m).toList, u.oneCell' = true := by intro u hu; simp at hu; rcases hu with rfl | rfl | rfl | rfl | rfl <;> rfl
theorem twice_only (w : World) (m : List UInt8) : Only (fun _ => False) w (twice w m) := ((Only.refl _ _).alloc _).alloc _
theorem twice_size (w : World) (m : List UInt8) : w.heap.size ≤ (twice w m).heap.size := (twice_only w m).size

abbrev tail1 : List UInt8 := l250 ++ 13 :: 10 :: (l354 ++ 13 :: 10 :: (l250 ++ 13 :: 10 :: []))
abbrev server : List UInt8 := l220 ++ 13 :: 10 :: (l250 ++ 13 :: 10 :: (l250 ++ 13 :: 10 :: tail1))
def sentAll (l : List UInt8) : List UInt8 :=
  ((([] ++ [69, 72, 76, 79, 32, 108, 111, 99, 97, 108, 104, 111, 115, 116, 13, 10]) ++ (lMail ++ [13, 10])) ++ (lRcpt ++ [13, 10]) ++ (lData ++ [13, 10])) ++ (dots 0 l ++ dotend (dotst 0 l))

set_option maxRecDepth 100000 in
theorem all (w : World) (he : Eb w) (W g cap : Nat) (l : List UInt8) (hl : l.length ≤ 500) (h13 : (13 : UInt8) ∉ l) (hW : Blk w W #[str server, .slice none 0 0, .bool false] 54) (hg : Blk w g (calls3 l) 33) :
    Calls Tryz.prog 17 #[.iface 51 (ptr W), .bool false, .slice (some ⟨g, 0, none⟩) 3 cap] w fun e w' => ∃ v cap', e = .returned (.tuple #[.slice v 3 cap', .bool true]) ∧
      w'.ownsRow w.heap.size 36 9 (.slice v 3 cap') 3 (toldc [] ++ toldc [] ++ toldc [120]).toList ∧
      (∃ sv, Blk w' W #[str [], sv, .bool false] 54 ∧ w'.ownsRow w.heap.size 5 1 sv (sentAll l).length (cellsOf (sentAll l))) ∧ Only (fun k => k = W) w w' := by
  have hlt := hW.lt
  have hgW : g ≠ W := Blk.ne hg hW (by decide)
  have H13 := Lib.hid h13; clear h13
  have HG := Lib.hid hg; clear hg
  go_enter Tryz.func17, Tryz.ntmps17
  go_wp2_with fail
  refine (newclient w W server (by decide) hW).mono ?_
  rintro e w1 ⟨c, rfl, hcW, hce, h1, o1⟩
  have he1 := he.only o1 (fun f => f)
  have hg1 := o1.blk HG.out (fun f => f)
  have hcg1 := hg1.cell
  have sz1 := o1.size
  have HE := Lib.hid hce; clear hce
  have HO1 := Lib.hid o1; clear o1
  have HG1 := Lib.hid hg1; clear hg1
  go_wp2_with fail
  refine wp_loop_rounds 4 ?_
  rw [rounds_succ]
  go_wp2_with fail
  have oa1 : Only (fun _ => False) w1 (w1.alloc (.cells #[.int .i64 2, str [97, 64, 98], .pointer none, .pointer none, str []] 33)) := (Only.refl _ _).alloc _
  refine (onemail (h1.only oa1 (fun _ f => f.elim)) (he1.only oa1 (fun f => f)) rfl rfl rfl rfl (by simp) tail1 (.inr rfl)).mono ?_
  rintro e w2 ⟨rfl, v2, m, h2, hm2, s2⟩
  have t2 := Step.mono_left (c := c) oa1 (fun _ f => f.elim) s2
  have he2 := he1.step h1 t2
  have hg2 := t2.only.blk HG1.out (h1.may_not HG1.out (by decide))
  have HT2 := Lib.hid t2; clear t2 s2 oa1 hcg1
  have HM2 := Lib.hid hm2; clear hm2
  have HG2 := Lib.hid hg2; clear hg2
  obtain ⟨i0, hi, hz0, hz1, hz2⟩ := parts36
  have HN2 : Hid (∀ j u, (toldc []).toList[j]? = some u → (twice w2 []).cell? ((⟨w2.heap.size + 1, 0, none⟩ : Addr).add j) = some u) := told_news w2 []
  have sz2 := HT2.out.only.size
  have szt2 := twice_size w2 []
  have K2 : w.heap.size ≤ (twice w2 []).heap.size := by omega
  go_wp2_with (at_builtin; refine wpList_append_own2 rfl _ _ 24 rfl w.heap.size 36 i0 (told []) 9 96 Tryz.underlying24 hi hz0 hz1 hz2 rfl (by decide) (.slice none 0 0) 0 [] rfl ⟨rfl, .inl ⟨rfl, rfl⟩⟩ ⟨w2.heap.size + 1, 0, none⟩ 1 1 (toldc []).toList rfl rfl HN2.out (told_ones _) (by decide) (by decide) K2 ?_; intro p3 cap3 w3 HOw3 HGr3 HK3)
  have o3 : Only (fun _ => False) w2 w3 := (twice_only w2 []).grown HGr3.out (fun k hk => by simp [Value.ownBlock] at hk)
  have h3 := h2.only o3 (fun _ f => f.elim)
  have he3 := he2.only o3 (fun f => f)
  have hg3 := o3.blk HG2.out (fun f => f)
  have hcg3 := hg3.cell
  have hm3 : w3.heap[m]? = some (.map #[] 0) := by rw [o3.block m (lt_of_block HM2.out) (fun f => f)]; exact HM2.out
  have sz3 := o3.size
  have HO3 := Lib.hid o3; clear o3
  have HG3 := Lib.hid hg3; clear hg3
  have HM3 := Lib.hid hm3; clear hm3
  rw [rounds_succ]
  go_wp2_with fail
  have oa3 : Only (fun _ => False) w3 (w3.alloc (.cells #[.int .i64 3, str [99, 64, 100], .pointer none, .pointer none, str []] 33)) := (Only.refl _ _).alloc _
  have hm3' : (w3.alloc (.cells #[.int .i64 3, str [99, 64, 100], .pointer none, .pointer none, str []] 33)).heap[m]? = some (.map #[] 0) := by rw [oa3.block m (lt_of_block HM3.out) (fun f => f)]; exact HM3.out
  refine (onercpt (h3.only oa3 (fun _ f => f.elim)) (he3.only oa3 (fun f => f)) rfl rfl (by simp [lMail]) m rfl hm3' rfl (l354 ++ 13 :: 10 :: (l250 ++ 13 :: 10 :: [])) (.inl ⟨rfl, rfl⟩)).mono ?_
  rintro e w4 ⟨rfl, v4, rc, h4, s4⟩
  have t4 := Step.mono_left (c := c) oa3 (fun _ f => f.elim) s4
  have he4 := he3.step h3 t4
  have hg4 := t4.only.blk HG3.out (h3.may_not HG3.out (by decide))
  have hw4 := t4.only.own HOw3.out (fun k hk => tolds_not h3 HOw3.out k hk)
  have HT4 := Lib.hid t4; clear t4 s4 oa3 hcg3 hm3'
  have HG4 := Lib.hid hg4; clear hg4
  have HW4 : Hid ((twice w4 []).ownsRow w.heap.size 36 9 (.slice p3 (0 + 1) cap3) (0 + 1) ([] ++ (toldc []).toList)) := (twice_only w4 []).own hw4 (fun _ _ f => f)
  clear hw4
  have HN4 : Hid (∀ j u, (toldc []).toList[j]? = some u → (twice w4 []).cell? ((⟨w4.heap.size + 1, 0, none⟩ : Addr).add j) = some u) := told_news w4 []
  have sz4 := HT4.out.only.size
  have szt4 := twice_size w4 []
  have K4 : w.heap.size ≤ (twice w4 []).heap.size := by omega
  go_wp2_with (at_builtin; refine wpList_append_own2 rfl _ _ 24 rfl w.heap.size 36 i0 (told []) 9 96 Tryz.underlying24 hi hz0 hz1 hz2 rfl (by decide) (.slice p3 (0 + 1) cap3) (0 + 1) ([] ++ (toldc []).toList) rfl HW4.out ⟨w4.heap.size + 1, 0, none⟩ 1 1 (toldc []).toList rfl rfl HN4.out (told_ones _) (by decide) (by decide) K4 ?_; intro p5 cap5 w5 HOw5 HGr5 HK5)
  have o5 : Only (fun k => (Value.slice p3 (0 + 1) cap3).ownBlock = some k) w4 w5 := ((twice_only w4 []).mono (fun _ f => f.elim)).grown HGr5.out (fun k hk _ => hk)
  have no5 : ∀ k, (Value.slice p3 (0 + 1) cap3).ownBlock = some k → ¬ May c v4 k := fun k hk => tolds_not (h4.only (twice_only w4 []) (fun _ f => f.elim)) HW4.out k hk
  have h5 := h4.only o5 no5
  have ng5 : ∀ k, (Value.slice p3 (0 + 1) cap3).ownBlock = some k → k ≠ g ∧ k ≠ 10 := fun k hk => by
    have hg5 : Blk (twice w4 []) g (calls3 l) 33 := (twice_only w4 []).blk HG4.out (fun f => f)
    obtain ⟨te, ve, hb10⟩ := he4.only (twice_only w4 []) (fun f => f)
    exact ⟨fun e => own_ne HW4.out hg5 (by decide) (e ▸ hk), fun e => own_ne HW4.out hb10 (by decide) (e ▸ hk)⟩
  have he5 := he4.only o5 (fun k => (ng5 _ k).2 rfl)
  have hg5 := o5.blk HG4.out (fun k => (ng5 _ k).1 rfl)
  have hcg5 := hg5.cell
  have sz5 := o5.size
  have HO5 := Lib.hid o5; clear o5 no5 ng5
  have HG5 := Lib.hid hg5; clear hg5
  rw [rounds_succ]
  go_wp2_with fail
  have oa5 : Only (fun _ => False) w5 (w5.alloc (.cells #[.int .i64 4, str [], .pointer none, .pointer none, str l] 33)) := (Only.refl _ _).alloc _
  refine (onedata (h5.only oa5 (fun _ f => f.elim)) (he5.only oa5 (fun f => f)) rfl rfl (by simp [lMail, lRcpt]) l hl H13.out [] (.inl ⟨rfl, rfl⟩)).mono ?_
  rintro e w6 ⟨rfl, v6, h6, s6⟩
  have t6 := Step.mono_left (c := c) oa5 (fun _ f => f.elim) s6
  have hw6 := t6.only.own HOw5.out (fun k hk => tolds_not h5 HOw5.out k hk)
  have HT6 := Lib.hid t6; clear t6 s6 oa5 hcg5
  have HW6 : Hid ((twice w6 [120]).ownsRow w.heap.size 36 9 (.slice p5 (0 + 1 + 1) cap5) (0 + 1 + 1) ([] ++ (toldc []).toList ++ (toldc []).toList)) := (twice_only w6 [120]).own hw6 (fun _ _ f => f)
  clear hw6
  have HN6 : Hid (∀ j u, (toldc [120]).toList[j]? = some u → (twice w6 [120]).cell? ((⟨w6.heap.size + 1, 0, none⟩ : Addr).add j) = some u) := told_news w6 [120]
  have sz6 := HT6.out.only.size
  have szt6 := twice_size w6 [120]
  have K6 : w.heap.size ≤ (twice w6 [120]).heap.size := by omega
  go_wp2_with (at_builtin; refine wpList_append_own2 rfl _ _ 24 rfl w.heap.size 36 i0 (told []) 9 96 Tryz.underlying24 hi hz0 hz1 hz2 rfl (by decide) (.slice p5 (0 + 1 + 1) cap5) (0 + 1 + 1) ([] ++ (toldc []).toList ++ (toldc []).toList) rfl HW6.out ⟨w6.heap.size + 1, 0, none⟩ 1 1 (toldc [120]).toList rfl rfl HN6.out (told_ones _) (by decide) (by decide) K6 ?_; intro p7 cap7 w7 HOw7 HGr7 HK7)
  rw [rounds_succ]
  go_wp2_with fail
  go_ret2
  have o7 : Only (fun k => (Value.slice p5 (0 + 1 + 1) cap5).ownBlock = some k) w6 w7 := ((twice_only w6 [120]).mono (fun _ f => f.elim)).grown HGr7.out (fun k hk _ => hk)
  have no7 : ∀ k, (Value.slice p5 (0 + 1 + 1) cap5).ownBlock = some k → ¬ May c v6 k := fun k hk => tolds_not (h6.only (twice_only w6 [120]) (fun _ f => f.elim)) HW6.out k hk
  have h7 := h6.only o7 no7
  have b7 : w.heap.size ≤ c.Bs := by
    have h8 := h7.lt c.C (by simp [Ids.all])
    rcases HE.out c.C (by simp [Ids.all]) with h9 | h9
    · exact absurd (hcW.trans h9.symm) h7.n_W_C
    · omega
  have a1 : Only (fun k => k = W) w w1 := HO1.out.mono (fun _ f => f.elim)
  have a2 := upto a1 (fun i hi => by simp [Value.ownBlock] at hi) HE.out HT2.out
  have a4 := upto (a2.1.trans (HO3.out.mono (fun _ f => f.elim))) a2.2 HE.out HT4.out
  have a6 := upto (a4.1.trans' HO5.out (fun i hi hk => absurd (HW4.out.lt i hk).1 (by omega))) a4.2 HE.out HT6.out
  have a7 := a6.1.trans' o7 (fun i hi hk => absurd (HW6.out.lt i hk).1 (by omega))
  refine ⟨p7, cap7, rfl, by simpa using HOw7.out, ⟨v6, ?_, ?_⟩, a7⟩
  · rw [← hcW]; exact h7.wire
  · have := own_base h7.own b7
    simpa [sentAll] using this

end Go.Proofs.YtejckkeahmpcmaaGreatDoor
