/- impl's called: one call of the client, for the three kinds that the statement uses. No statement of the seat is proved here. -/
import Derived.Test.YtejckkeahmpcmaaGreatDoorRcpt
import Derived.Test.YtejckkeahmpcmaaGreatDoorSent
namespace Go.Proofs.YtejckkeahmpcmaaGreatDoor
open Go.RowKit
set_option linter.unusedVariables false
set_option maxHeartbeats 1000000

variable {w : World} {c : Ids} {s : St}

theorem mailof (w : World) : Calls Tryz.prog 48 #[.pointer none] w fun e w' => e = .returned (.pointer none) ∧ w = w' := by
  go_enter Tryz.func48, Tryz.ntmps48
  go_wp2_with fail
  go_ret
  exact ⟨rfl, rfl⟩
theorem rcptof (w : World) : Calls Tryz.prog 50 #[.pointer none] w fun e w' => e = .returned (.pointer none) ∧ w = w' := by
  go_enter Tryz.func50, Tryz.ntmps50
  go_wp2_with fail
  go_ret
  exact ⟨rfl, rfl⟩

/-- A Call of this kind. -/
abbrev callv (k : Int) (t d : List UInt8) : Value := .agg #[.int .i64 k, str t, .pointer none, .pointer none, str d]

abbrev atOne (w : World) (k : Int) (t d : List UInt8) : World := (w.alloc (.cells #[.int .i64 k, str t, .pointer none, .pointer none, str d] 33)).alloc (.cells (toldc []) 36)
theorem atOne_only (w : World) (k : Int) (t d : List UInt8) : Only (fun _ => False) w (atOne w k t d) := ((Only.refl _ _).alloc _).alloc _
theorem atOne_cell (w : World) (k : Int) (t d : List UInt8) : Blk (atOne w k t d) (w.heap.size + 1) (toldc []) 36 := by
  have := Blk.new (w.alloc (.cells #[.int .i64 k, str t, .pointer none, .pointer none, str d] 33)) (toldc []) 36
  simpa using this

set_option maxRecDepth 100000 in
theorem onedata (h : Inv w c s) (he : Eb w) (hd : s.dot = .pointer none) (hpn : s.pnd = []) (hm : s.snt.length ≤ 30000) (l : List UInt8) (hl : l.length ≤ 500) (h13 : (13 : UInt8) ∉ l) (tail : List UInt8)
    (hs : Next s (l354 ++ 13 :: 10 :: (l250 ++ 13 :: 10 :: tail))) :
    Calls Tryz.prog 33 #[ptr c.C, .bool false, callv 4 [] l] w fun e w' => e = .returned (.tuple #[told [120], .bool true]) ∧ ∃ v', Inv w' c { s with inp := [], rest := tail, sv := v', snt := (s.snt ++ (lData ++ [13, 10])) ++ (dots 0 l ++ dotend (dotst 0 l)) } ∧ Step c w s.sv w' v' := by
  have oA := atOne_only w 4 [] l
  have h1 := h.only oA (fun _ f => f.elim)
  have he1 := he.only oA (fun f => f)
  have hR1 := atOne_cell w 4 [] l
  have hn1 := h1.may_not hR1 (by decide)
  have HA := Lib.hid oA; clear oA
  have HR1 := Lib.hid hR1; clear hR1
  have HN1 := Lib.hid hn1; clear hn1
  have HS := Lib.hid hs; clear hs
  have HD := Lib.hid hd; clear hd
  have HN := Lib.hid hpn; clear hpn
  have H13 := Lib.hid h13; clear h13
  go_enter Tryz.func33, Tryz.ntmps33
  go_wp2_with fail
  refine (sent h1 he1 HD.out HN.out hm l hl H13.out tail HS.out).mono ?_
  rintro e w2 ⟨rfl, v2, h2, s2⟩
  have hR2 := s2.only.blk HR1.out HN1.out
  have HS2 := Lib.hid s2; clear s2
  have HR2 := Lib.hid hR2; clear hR2
  go_wp2_with (first
    | (refine wpList_whole rfl 36 (.tmp 6) (.tmp 44) rfl (w.heap.size + 1) (toldc [120]) rfl rfl 36 (toldc []) HR2.out told_info rfl (told_one _) ?_; intro w3 hB3 HO3 HW3; have hc3 := hB3.cell; have HB3 := Lib.hid hB3; clear hB3)
    | (refine wpList_whole rfl 36 (.tmp 6) (.tmp 87) rfl (w.heap.size + 1) (toldc [120]) rfl rfl 36 (toldc [120]) HB3.out told_info rfl (told_one _) ?_; intro w4 hB4 HO4 HW4; have hc4 := hB4.cell; have HB4 := Lib.hid hB4; clear hB4 hc3))
  refine bodyPost_ret (by simp [results, Tryz.results33, go_sem, hc4]; try rfl) rfl ?_
  have o4 := HO3.out.trans HO4.out
  refine ⟨rfl, v2, h2.only o4 (fun k hk => by subst hk; exact h2.may_not HR2.out (by decide)), ?_⟩
  exact (Step.mono_left HA.out (fun _ f => f.elim) HS2.out).then o4 (fun i hi => .inr (by omega))

/-- An empty Told stored cell by cell. -/
def nine (w : World) (b : Nat) : World :=
  ((((((((w.setCell ⟨b, 0, none⟩ (.int .i64 0)).setCell ⟨b, 1, none⟩ (.int .i64 0)).setCell ⟨b, 2, none⟩ (.int .i64 0)).setCell ⟨b, 3, none⟩ (.int .i64 0)).setCell ⟨b, 4, none⟩ (.int .i64 0)).setCell ⟨b, 5, none⟩ (.string ⟨#[]⟩)).setCell
    ⟨b, 6, none⟩ (.bool false)).setCell ⟨b, 7, none⟩ (.int .i64 0)).setCell ⟨b, 8, none⟩ (.slice none 0 0)
theorem nine_blk {w : World} {b : Nat} (h : Blk w b (toldc []) 36) : Blk (nine w b) b (toldc []) 36 := by
  have := ((((((((h.set 0 (.int .i64 0)).set 1 (.int .i64 0)).set 2 (.int .i64 0)).set 3 (.int .i64 0)).set 4 (.int .i64 0)).set 5 (.string ⟨#[]⟩)).set 6 (.bool false)).set 7 (.int .i64 0)).set 8 (.slice none 0 0)
  simpa [nine] using this
theorem nine_only (w : World) (b : Nat) : Only (fun k => k = b) w (nine w b) := by
  unfold nine
  exact (((((((((Only.refl (fun k => k = b) w).setCell _ _ (fun _ => rfl)).setCell _ _ (fun _ => rfl)).setCell _ _ (fun _ => rfl)).setCell _ _ (fun _ => rfl)).setCell _ _ (fun _ => rfl)).setCell _ _ (fun _ => rfl)).setCell _ _ (fun _ => rfl)).setCell _ _ (fun _ => rfl)).setCell _ _ (fun _ => rfl)

set_option maxHeartbeats 4000000 in
set_option maxRecDepth 100000 in
theorem onemail (h : Inv w c s) (he : Eb w) (hg : s.dg = false) (hh : s.dh = false) (hd : s.dot = .pointer none) (hpn : s.pnd = []) (hm : s.snt.length ≤ 40000) (tail : List UInt8)
    (hs : Next s (l220 ++ 13 :: 10 :: (l250 ++ 13 :: 10 :: (l250 ++ 13 :: 10 :: tail)))) :
    Calls Tryz.prog 33 #[ptr c.C, .bool false, callv 2 [97, 64, 98] []] w fun e w' => e = .returned (.tuple #[told [], .bool true]) ∧ ∃ v' m, Inv w' c { s with inp := [], rest := tail, sv := v', snt := (s.snt ++ [69, 72, 76, 79, 32, 108, 111, 99, 97, 108, 104, 111, 115, 116, 13, 10]) ++ (lMail ++ [13, 10]), ext := .map (some m), dg := true, dh := true } ∧ w'.heap[m]? = some (.map #[] 0) ∧ Step c w s.sv w' v' := by
  have oA := atOne_only w 2 [97, 64, 98] []
  have h1 := h.only oA (fun _ f => f.elim)
  have he1 := he.only oA (fun f => f)
  have hR1 := atOne_cell w 2 [97, 64, 98] []
  have hn1 := h1.may_not hR1 (by decide)
  have HA := Lib.hid oA; clear oA
  have HR1 := Lib.hid hR1; clear hR1
  have HN1 := Lib.hid hn1; clear hn1
  have HS := Lib.hid hs; clear hs
  have HD := Lib.hid hd; clear hd
  have HN := Lib.hid hpn; clear hpn
  have HG := Lib.hid hg; clear hg
  have HH := Lib.hid hh; clear hh
  go_enter Tryz.func33, Tryz.ntmps33
  go_wp2_with fail
  have oD : Only (fun _ => False) (atOne w 2 [97, 64, 98] []) (atOne w 2 [97, 64, 98] []).drew := (Only.refl _ _).drew
  have h1d := h1.only oD (fun _ f => f.elim)
  have he1d := he1.only oD (fun f => f)
  have HD1 := Lib.hid oD; clear oD
  have HI := Lib.hid h1d; clear h1d
  have HE := Lib.hid he1d; clear he1d
  go_region_with (first
    | (go_at_call 48; refine (mailof _).mono ?_; rintro e w' ⟨rfl, rfl⟩)
    | (go_at_call 47; refine (mail HI.out HE.out HG.out HH.out HD.out HN.out hm tail HS.out).mono ?_; rintro e w2 ⟨rfl, v2, m2, h2, hmap, s2⟩; have hR2 := s2.only.blk (HD1.out.blk HR1.out (fun f => f)) HN1.out; have HS2 := Lib.hid s2; clear s2; have HR2 := Lib.hid hR2; clear hR2; have HM2 := Lib.hid hmap; clear hmap)
    | (go_at_call 45; refine (toldnil _).mono ?_; rintro e w3 ⟨rfl, o3⟩; have hR3 := o3.blk HR2.out (fun f => f); have hc3 := hR3.cell; have hf3 := hR3.free; have HO3 := Lib.hid o3; clear o3; have HR3 := Lib.hid hR3; clear hR3))
  all_goals
    have hB4 := nine_blk HR3.out
    have oN := nine_only w3 (w.heap.size + 1)
    change Exit.inBlock 0 _ Exit.normal _ (nine w3 (w.heap.size + 1))
    generalize nine w3 (w.heap.size + 1) = w4 at hB4 oN ⊢
    clear hc3 hf3
    have hc4 := hB4.cell
    have HB4 := Lib.hid hB4; clear hB4
    have HO4 := Lib.hid oN; clear oN
    go_wp2_with (refine wpList_whole rfl 36 (.tmp 6) (.tmp 87) rfl (w.heap.size + 1) (toldc []) rfl rfl 36 (toldc []) HB4.out told_info rfl (told_one _) ?_; intro w5 hB5 HO5 HW5; have hc5 := hB5.cell; have HB5 := Lib.hid hB5; clear hB5 hc4)
    refine bodyPost_ret (by simp [results, Tryz.results33, go_sem, hc5]; try rfl) rfl ?_
    have o5 : Only (fun k => k = w.heap.size + 1) w2 w5 := ((HO3.out.mono (fun _ f => f.elim)).trans HO4.out).trans HO5.out
    have hm5 : w5.heap[m2]? = some (.map #[] 0) := by
      rw [o5.block m2 (lt_of_block HM2.out) (fun e => by have h1 := HR2.out; unfold Blk at h1; rw [← e, HM2.out] at h1; cases h1)]; exact HM2.out
    refine ⟨rfl, v2, m2, h2.only o5 (fun k hk => by subst hk; exact h2.may_not HR2.out (by decide)), hm5, ?_⟩
    exact (Step.mono_left HA.out (fun _ f => f.elim) (Step.mono_left HD1.out (fun _ f => f.elim) HS2.out)).then o5 (fun i hi => .inr (by omega))

set_option maxHeartbeats 4000000 in
set_option maxRecDepth 100000 in
theorem onercpt (h : Inv w c s) (he : Eb w) (hd : s.dot = .pointer none) (hpn : s.pnd = []) (hm : s.snt.length ≤ 40000) (m : Nat) (hext : s.ext = .map (some m)) (hmap : w.heap[m]? = some (.map #[] 0)) (hrc : s.rc = .slice none 0 0) (tail : List UInt8)
    (hs : Next s (l250 ++ 13 :: 10 :: tail)) :
    Calls Tryz.prog 33 #[ptr c.C, .bool false, callv 3 [99, 64, 100] []] w fun e w' => e = .returned (.tuple #[told [], .bool true]) ∧ ∃ v' rc, Inv w' c { s with inp := [], rest := tail, sv := v', snt := s.snt ++ (lRcpt ++ [13, 10]), rc := rc } ∧ Step c w s.sv w' v' := by
  have oA := atOne_only w 3 [99, 64, 100] []
  have h1 := h.only oA (fun _ f => f.elim)
  have he1 := he.only oA (fun f => f)
  have hR1 := atOne_cell w 3 [99, 64, 100] []
  have hn1 := h1.may_not hR1 (by decide)
  have hmp : (atOne w 3 [99, 64, 100] []).drew.heap[m]? = some (.map #[] 0) := by
    rw [oA.drew.block m (lt_of_block hmap) (fun f => f)]; exact hmap
  have HMP := Lib.hid hmp; clear hmp hmap
  have HA := Lib.hid oA; clear oA
  have HR1 := Lib.hid hR1; clear hR1
  have HN1 := Lib.hid hn1; clear hn1
  have HS := Lib.hid hs; clear hs
  have HD := Lib.hid hd; clear hd
  have HN := Lib.hid hpn; clear hpn
  have HX := Lib.hid hext; clear hext
  have HC := Lib.hid hrc; clear hrc
  go_enter Tryz.func33, Tryz.ntmps33
  go_wp2_with fail
  have oD : Only (fun _ => False) (atOne w 3 [99, 64, 100] []) (atOne w 3 [99, 64, 100] []).drew := (Only.refl _ _).drew
  have h1d := h1.only oD (fun _ f => f.elim)
  have he1d := he1.only oD (fun f => f)
  have HD1 := Lib.hid oD; clear oD
  have HI := Lib.hid h1d; clear h1d
  have HE := Lib.hid he1d; clear he1d
  go_region_with (first
    | (go_at_call 50; refine (rcptof _).mono ?_; rintro e w' ⟨rfl, rfl⟩)
    | (go_at_call 49; refine (rcpt HI.out HE.out HD.out HN.out hm m HX.out HMP.out HC.out tail HS.out).mono ?_; rintro e w2 ⟨rfl, v2, rc2, h2, s2⟩; have hR2 := s2.only.blk (HD1.out.blk HR1.out (fun f => f)) HN1.out; have HS2 := Lib.hid s2; clear s2; have HR2 := Lib.hid hR2; clear hR2)
    | (go_at_call 45; refine (toldnil _).mono ?_; rintro e w3 ⟨rfl, o3⟩; have hR3 := o3.blk HR2.out (fun f => f); have hc3 := hR3.cell; have hf3 := hR3.free; have HO3 := Lib.hid o3; clear o3; have HR3 := Lib.hid hR3; clear hR3))
  all_goals
    have hB4 := nine_blk HR3.out
    have oN := nine_only w3 (w.heap.size + 1)
    change Exit.inBlock 0 _ Exit.normal _ (nine w3 (w.heap.size + 1))
    generalize nine w3 (w.heap.size + 1) = w4 at hB4 oN ⊢
    clear hc3 hf3
    have hc4 := hB4.cell
    have HB4 := Lib.hid hB4; clear hB4
    have HO4 := Lib.hid oN; clear oN
    go_wp2_with (refine wpList_whole rfl 36 (.tmp 6) (.tmp 87) rfl (w.heap.size + 1) (toldc []) rfl rfl 36 (toldc []) HB4.out told_info rfl (told_one _) ?_; intro w5 hB5 HO5 HW5; have hc5 := hB5.cell; have HB5 := Lib.hid hB5; clear hB5 hc4)
    refine bodyPost_ret (by simp [results, Tryz.results33, go_sem, hc5]; try rfl) rfl ?_
    have o5 : Only (fun k => k = w.heap.size + 1) w2 w5 := ((HO3.out.mono (fun _ f => f.elim)).trans HO4.out).trans HO5.out
    refine ⟨rfl, v2, rc2, h2.only o5 (fun k hk => by subst hk; exact h2.may_not HR2.out (by decide)), ?_⟩
    exact (Step.mono_left HA.out (fun _ f => f.elim) (Step.mono_left HD1.out (fun _ f => f.elim) HS2.out)).then o5 (fun i hi => .inr (by omega))

end Go.Proofs.YtejckkeahmpcmaaGreatDoor
