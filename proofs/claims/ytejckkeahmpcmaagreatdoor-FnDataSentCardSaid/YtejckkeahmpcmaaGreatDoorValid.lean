/- An address without a line end is let by; a text of one line is split into itself. No statement of the seat is proved here. -/
import Derived.Test.YtejckkeahmpcmaaGreatDoorBase
namespace Go.Proofs.YtejckkeahmpcmaaGreatDoor
open Go.RowKit
set_option linter.unusedVariables false
set_option maxHeartbeats 1000000

/-- Signs of ASCII that are no line end. -/
def Plain (l : List UInt8) : Prop := ∀ b ∈ l, b.toNat < 128 ∧ b.toNat ≠ 10 ∧ b.toNat ≠ 13

theorem noend (w : World) (l : List UInt8) (hp : Plain l) (hl : l.length ≤ 1000) : Calls Tryz.prog 116 #[str l, str [10, 13]] w fun e w' => e = .returned (.int .i64 (-1)) ∧ Only (fun _ => False) w w' := by
  have HP := Lib.hid hp; clear hp
  go_enter Tryz.func116, Tryz.ntmps116
  go_wp2_with fail
  go_loopw [] (fun wr => ∃ k : Nat, k ≤ l.length ∧ wr.heap[w.heap.size]? = some (.stringIter ⟨l.toArray⟩ k) ∧ Only (fun _ => False) w wr) (fun wr => l.length - wr.iterPos w.heap.size)
  case atStart => exact ⟨0, Nat.zero_le _, World.iter_heap _ _ _, (Only.refl _ _).alloc _⟩
  case round =>
    obtain ⟨k, hk, hit, ho⟩ := hrel
    have HIT := Lib.hid hit; clear hit
    have HO := Lib.hid ho; clear ho
    by_cases hlt : k < l.length
    · have hb : l[k]? = some l[k] := by simp [hlt]
      obtain ⟨b, hbe⟩ : ∃ b, b = l[k] := ⟨_, rfl⟩
      rw [← hbe] at hb
      have hp := HP.out b (by rw [hbe]; exact List.getElem_mem _)
      clear hbe
      obtain ⟨hp1, hp2, hp3⟩ := hp
      have e10 : ((b.toNat : Int) == 10) = false := by rw [beq_eq_false_iff_ne]; omega
      have e13 : ((b.toNat : Int) == 13) = false := by rw [beq_eq_false_iff_ne]; omega
      have HB := Lib.hid hb; clear hb
      have HA := Lib.hid hp1; clear hp1 hp2 hp3
      go_wp2_with (refine wpList_next rfl (.tmp 10) rfl w.heap.size l k b rfl HIT.out HB.out HA.out ?_; intro w1 H1 HO1 HS1)
      have H2 : Hid ((w1.iter ⟨[10, 13].toArray⟩ 0).heap[w1.heap.size]? = some (.stringIter ⟨[10, 13].toArray⟩ 0)) := World.iter_heap _ _ _
      refine wp_loop_rounds 3 ?_
      rw [rounds_succ]
      go_wp2_with (refine wpList_next rfl (.tmp 16) rfl w1.heap.size [10, 13] 0 10 rfl H2.out rfl (by decide) ?_; intro w2 H3 HO2 HS2)
      rw [rounds_succ]
      go_wp2_with (refine wpList_next rfl (.tmp 16) rfl w1.heap.size [10, 13] 1 13 rfl H3.out rfl (by decide) ?_; intro w3 H4 HO3 HS3)
      rw [rounds_succ]
      go_wp2_with (refine wpList_next_end rfl (.tmp 16) rfl w1.heap.size [10, 13] rfl H4.out ?_)
      have oA : Only (fun _ => False) w w1 := HO1.out _ _ HO.out (fun h => by omega)
      have oB : Only (fun _ => False) w w3 := by
        have hsz := oA.size
        exact HO3.out _ _ (HO2.out _ _ (oA.alloc _) (fun h => by omega)) (fun h => by omega)
      have oC : Only (fun i => i = w1.heap.size) w1 w3 := HO3.out _ _ (HO2.out _ _ ((Only.refl _ _).alloc _) (fun _ => rfl)) (fun _ => rfl)
      have hK : w.heap.size < w1.heap.size := lt_of_block H1.out
      have hD : w3.heap[w.heap.size]? = some (.stringIter ⟨l.toArray⟩ (k + 1)) := by rw [oC.block _ hK (by omega)]; exact H1.out
      have hm : w3.iterPos w.heap.size = k + 1 := iterPos_of hD
      have hm0 : wr.iterPos w.heap.size = k := iterPos_of HIT.out
      go_roundw
      case rel => exact ⟨k + 1, by omega, hD, oB⟩
      case measure => rw [hm, hm0]; omega
    · obtain rfl : k = l.length := by omega
      go_wp2_with (refine wpList_next_end rfl (.tmp 10) rfl w.heap.size l rfl HIT.out ?_)
      go_ret
      exact ⟨rfl, HO.out⟩
theorem contains (w : World) (l : List UInt8) (hp : Plain l) (hl : l.length ≤ 1000) : Calls Tryz.prog 89 #[str l, str [10, 13]] w fun e w' => e = .returned (.bool false) ∧ Only (fun _ => False) w w' := by
  have HP := Lib.hid hp; clear hp
  go_enter Tryz.func89, Tryz.ntmps89
  go_wp2_with fail
  refine (noend w l HP.out hl).mono ?_
  rintro e w1 ⟨rfl, o1⟩
  have HO := Lib.hid o1; clear o1
  go_wp2_with fail
  go_ret
  exact ⟨rfl, HO.out⟩

theorem valid (w : World) (l : List UInt8) (hp : Plain l) (hl : l.length ≤ 1000) : Calls Tryz.prog 64 #[str l] w fun e w' => e = .returned .nilIface ∧ Only (fun _ => False) w w' := by
  have HP := Lib.hid hp; clear hp
  go_enter Tryz.func64, Tryz.ntmps64
  go_wp2_with fail
  refine (contains w l HP.out hl).mono ?_
  rintro e w1 ⟨rfl, o1⟩
  have HO := Lib.hid o1; clear o1
  go_wp2_with fail
  go_ret
  exact ⟨rfl, HO.out⟩

set_option maxRecDepth 20000 in
theorem index_x (w : World) : Calls Tryz.prog 160 #[str [120], str [10]] w fun e w' => e = .returned (.int .i64 (-1)) ∧ w = w' := by
  have hx : (((⟨#[120]⟩ : ByteArray).extract 0 1).toList == [10]) = false := by decide +kernel
  go_enter Tryz.func160, Tryz.ntmps160
  go_wp2
  refine wp_loop_rounds 2 ?_
  rw [rounds_succ]
  go_wp2
  rw [rounds_succ]
  go_wp2
  go_ret
  exact ⟨rfl, rfl⟩

set_option maxRecDepth 20000 in
theorem split_x (w : World) : Calls Tryz.prog 117 #[str [120], str [10]] w fun e w' => ∃ (p : Option Addr) (cap : Nat), e = .returned (.slice p 1 cap) ∧ Only (fun _ => False) w w' := by
  go_enter Tryz.func117, Tryz.ntmps117
  go_wp2_with fail
  refine wp_loop_rounds 1 ?_
  rw [rounds_succ]
  go_wp2_with fail
  refine (index_x _).mono ?_
  rintro e w1 ⟨rfl, rfl⟩
  go_wp2_with fail
  go_ret
  refine ⟨_, _, rfl, ?_⟩
  first | exact (((Only.refl _ _).alloc _).alloc _).drew | exact (((Only.refl _ _).alloc _).drew).alloc _

end Go.Proofs.YtejckkeahmpcmaaGreatDoor
