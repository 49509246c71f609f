/-
  For every string handed in, laws.FnDataSent returns true and leaves its argument as it was (Rows.FnDataSentCardSaid: the row and its tied card).
  Conditions, all the row's own: the twelve package variables that the row lists read, when the call begins, as the program's own text lays them (the tie is given); nothing is asked of the string.
  The shell of the row's proof was written by the kit's proof-skeleton, turned here to a row that lists variables.
-/
import Derived.Test.YtejckkeahmpcmaaGreatDoorLaw
import Derived.Test.YtejckkeahmpcmaaGreatDoorRows
import Derived.Test.YtejckkeahmpcmaaGreatDoorCards
import Derived.Test.YtejckkeahmpcmaaGreatDoorTie
import Derived.WalkKit
import Derived.ProofKit
import Derived.OpenShut
import Derived.ShutString
import Derived.LaidMore
import Derived.Lay
import Derived.MakeChecks
import Derived.Stop.LaidErr
import Derived.SevenTiedAt
import Derived.Stop.Joined
namespace Go.Proofs.YtejckkeahmpcmaaGreatDoor.fnDataSent
open Go.ChangeShapes Go.WideShapes Go.ChangeAt Go.RowKit
open Go.ChangeMaps (open_string shut_string)
set_option linter.unusedVariables false

theorem own : ownKnob Tryz.prog.godebug = none := by kernel_rfl
theorem gE : Tryz.prog.globalNamed "bufio.ErrBufferFull" = some 10 := by kernel_rfl
theorem gEType : (Tryz.prog.globals[10]?).map (·.type) = some 89 := by kernel_rfl
theorem cells180 : Tryz.prog.cellsOf 180 = 1 := by kernel_rfl
theorem cells9 : Tryz.prog.cellsOf 9 = 1 := by kernel_rfl
theorem star : "*" ++ "errors.errorString" = "*errors.errorString" := by decide
theorem row178 : ∀ u, Tryz.prog.typeName? 3 u = some "*errors.errorString" → u = 178 := fun u h =>
  typeName_ptr_named (nm := "errors.errorString") (by rw [star]; kernel_rfl) (by kernel_rfl) (by decide) u (by rw [star]; exact h)

/-- bufio.ErrBufferFull's cell, by the row's condition and the world's shape. -/
theorem eb {W : World} (hL : laidMetH Tryz.prog Rows.fnDataSentRow.laid W) (hs : W.ShapedOpen Tryz.prog) : Eb W := by
  rw [MakeChecks.laidMetH_plain _ _ _ (by kernel_rfl)] at hL
  have h9 : laidMet Tryz.prog (Rows.fnDataSentRow.laid.drop 8) W := hL.tail.tail.tail.tail.tail.tail.tail.tail
  obtain ⟨a, s, hv, _, _, _⟩ := laid_sentinel h9 gE gEType Tryz.underlying89 row178 Tryz.underlying178 Tryz.underlying180 rfl rfl Tryz.underlying9 cells180 cells9
  obtain ⟨cs, hh, hz, _⟩ := hs.1 10 #[.nilIface] 89 (of_decide_eq_true (by kernel_rfl)) (by kernel_rfl)
  have hc := World.var?_cell gE hv 0
  have hb : Blk W 10 cs 89 := hh
  rw [hb.cell] at hc
  refine ⟨178, .pointer (some a), ?_⟩
  have hcs : cs = #[.iface 178 (.pointer (some a))] := by
    apply Array.ext_getElem?
    intro i
    rcases i with _ | i
    · rw [hc]
    · have h1 : cs.size = 1 := by simpa using hz
      rw [Array.getElem?_eq_none (by omega), Array.getElem?_eq_none (by simp)]
  rw [← hcs]; exact hb

set_option maxRecDepth 100000 in
theorem contract {H : Type} {enc : TypeId × Value → H} (W : World) (base : Nat) (args : Array Value) (ds gs : List (DataW H)) (before : List MemPlace)
    (hval0 : ∀ (j : Nat) t v, Tryz.f5.params[j]? = some t → args[j]? = some v → Value.okWide Tryz.prog W .any base t v)
    (hW : DataW.Whole enc Tryz.prog Tryz.f5.params.toList Rows.fnDataSentSpec.vars false W args.toList ds gs before)
    (hL : laidMetH Tryz.prog Rows.fnDataSentRow.laid W) (hsh : W.ShapedOpen Tryz.prog) :
    Calls Tryz.prog 5 args W fun e W' => ∃ v, e = .returned v ∧ Rows.fnDataSentSpec.post enc Tryz.prog Tryz.f5 false true false false W args v W' := by
  have hval : ∀ (j : Nat) t v, Tryz.f5.params[j]? = some t → args[j]? = some v → Value.okWide Tryz.prog W .any base t v := hval0
  have hW' := hW
  obtain ⟨p, q, hA0, hV, rfl, _, _⟩ := hW
  have hA : DataW.TrodAll enc Tryz.prog W 0 (fun _ => true) true Tryz.f5.params.toList args.toList ds p := hA0
  rw [Tryz.params5] at hA hval
  obtain ⟨v0, d0, rfl, rfl, h0⟩ := trodAll_one hA
  obtain ⟨rfl, rfl⟩ := trodVars_none hV
  obtain ⟨a0, rfl, rfl, rfl, w0⟩ := open_string Tryz.underlying9 (hval 0 9 v0 rfl rfl) h0
  simp only [List.append_nil] at hW'
  have hlaw := law W (eb hL hsh) a0.data.toList
  have e0 : (str a0.data.toList : Value) = .string a0 := rfl
  rw [e0] at hlaw
  refine hlaw.mono fun e W' ⟨he, hb⟩ => ?_
  subst he
  exact ⟨_, rfl, _, _, _, [], [], [], hW', trodAll_mk1 (shut_bool Tryz.underlying4 _), trodAll_mk1 (shut_string Tryz.underlying9 w0), rfl, hb.frame _, fun h => by cases h⟩


set_option maxRecDepth 100000 in
theorem lifted (os : Os) (started : os.Started) (H : Type) (enc : TypeId × Value → H) :
    ReturnsInHanded {} Tryz.checked os 5 .any (fun w args => (Rows.fnDataSentSpec.pre enc Tryz.prog Tryz.f5 Rows.fnDataSentRow.domain false w args ∧ laidMetH Tryz.prog Rows.fnDataSentRow.laid w) ∧ sizedMet enc Tryz.prog Tryz.f5 (OpenSpec.ofChange Rows.fnDataSentSpec) false w args)
      (Rows.fnDataSentSpec.post enc Tryz.prog Tryz.f5 false true false false) := by
  refine returnsInHanded_of_calls (C := Tryz.checked) own started (by kernel_rfl)
    (ChangeSpec.witness_shaped (enc := enc) (C := Tryz.checked) (os := os) (X := fun w _ => laidMetH Tryz.prog Rows.fnDataSentRow.laid w) false (World.laidAll Tryz.prog os Rows.fnDataSentRow.laid) #[.string ByteArray.empty] 8 (World.laidAll_os _ _ _)
      (World.shaped_of_ZipB (by kernel_rfl) (by kernel_rfl)) (by kernel_rfl) (by kernel_rfl) (by kernel_rfl)
      (by rw [MakeChecks.laidMetH_plain _ _ _ (by kernel_rfl)]; exact laidMet_laidAll _ (by kernel_rfl) (by kernel_rfl))) ?_
  intro w tape i _ hsh0 _ hok hpre hholds
  obtain ⟨_, _, _, fn', hfn', _, _, _, _, hval00⟩ := hok
  obtain rfl : fn' = Tryz.f5 := Option.some.inj (hfn'.symm.trans Tryz.func5)
  obtain ⟨⟨⟨ds, gs, before, hw, hc⟩, hx⟩, hz⟩ := hpre
  have hW0 := DataW.Whole.of_heap (w' := w.forCall tape i) (by rfl) hw
  have hL0 : laidMetH Tryz.prog Rows.fnDataSentRow.laid (w.forCall tape i) := hx.of_heap (by rfl)
  refine (contract (w.forCall tape i) w.heap.size i.args ds gs before hval00 hW0 hL0 hsh0).mono fun e W' ⟨v, he, hp⟩ => ?_
  subst he
  exact ChangeSpec.post_blind hp

theorem over : Rows.fnDataSentRow.holds Tryz.pinned (OpenSpec.ofChange Rows.fnDataSentSpec) :=
  OpenClaim.holds_of_wide 5 Tryz.f5 rfl rfl rfl rfl rfl rfl rfl ⟨rfl, rfl, rfl, rfl, rfl⟩ rfl rfl rfl rfl rfl (by kernel_rfl) Tryz.func5 (by kernel_rfl)
    (of_decide_eq_true (by kernel_rfl)) (by unfold Func.isWrapper; first | (rw [if_pos (by decide +kernel)]; kernel_rfl) | (rw [if_neg (by decide +kernel)]; exact ⟨rfl, rfl⟩))
    (fun os started H enc _ => lifted os started H enc)

theorem proved : Rows.FnDataSentSaid :=
  over

theorem card : Rows.FnDataSentCardSaid :=
  Claim7.holds_tied_plain_at .later [] [.data, .data, .data, .data, .sentinel, .sentinel, .sentinel, .sentinel, .sentinel, .sentinel, .pinned, .pinned] true (true, "9fb9f0123d6b2a4f18d3e59e75376844681a7d675c3fd79f715b3d5d6084bb39") true proved (fun _ h => by cases h) (by kernel_rfl) (fun _ h => by cases h) fnDataSent_row_tie rfl ⟨rfl, rfl⟩ (by kernel_rfl) rfl
    (fun f fn hf hfn => by
      obtain rfl : f = 5 := Option.some.inj ((show Tryz.prog.funcNamed "given.example/pub-pennypost/laws.FnDataSent" = some 5 by kernel_rfl).symm.trans hf) |>.symm
      obtain rfl : fn = Tryz.f5 := (Option.some.inj (Tryz.func5.symm.trans hfn)).symm
      exact ⟨by kernel_rfl, fun j t ht => by
        rw [Tryz.params5] at ht
        have hm : t ∈ [9] := by simpa using Array.mem_of_getElem? ht
        have hall : ([9].all fun u => !Tryz.prog.wantsStandIn u) = true := by kernel_rfl
        exact (show Tryz.prog.wantsStandIn t = false by simpa using List.all_eq_true.1 hall t hm)⟩)
    (by kernel_rfl)
#print axioms card
end Go.Proofs.YtejckkeahmpcmaaGreatDoor.fnDataSent
