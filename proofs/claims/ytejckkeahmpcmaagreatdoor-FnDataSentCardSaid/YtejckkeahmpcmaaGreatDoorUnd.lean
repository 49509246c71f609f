/- The law's undotted9. No statement of the seat is proved here. -/
import Derived.Test.YtejckkeahmpcmaaGreatDoorBase
namespace Go.Proofs.YtejckkeahmpcmaaGreatDoor
open Go.RowKit
set_option linter.unusedVariables false
set_option maxHeartbeats 2000000

theorem ex_head (a b : List UInt8) (k : Nat) (hk : k = a.length) : (⟨(a ++ b).toArray⟩ : ByteArray).extract 0 k = ⟨a.toArray⟩ := by
  subst hk; simp [ByteArray.extract_mk]
theorem ex_tail (a b : List UInt8) (k n : Nat) (hk : k = a.length) (hn : n = (a ++ b).length) : (⟨(a ++ b).toArray⟩ : ByteArray).extract k n = ⟨b.toArray⟩ := by
  subst hk hn; simp [ByteArray.extract_mk]
theorem bcat (a b : List UInt8) : (⟨a.toArray⟩ ++ ⟨b.toArray⟩ : ByteArray) = ⟨(a ++ b).toArray⟩ := by
  apply ByteArray.ext; simp
theorem get_mk (l : List UInt8) (k : Nat) (b : UInt8) (hb : l[k]? = some b) : ∀ h : k < (⟨l.toArray⟩ : ByteArray).size, (⟨l.toArray⟩ : ByteArray)[k]'h = b := by
  intro h
  have h2 : k < l.length := h
  have e : (⟨l.toArray⟩ : ByteArray)[k]'h = l[k]'h2 := rfl
  rw [e]
  rw [List.getElem?_eq_getElem h2] at hb
  exact Option.some.inj hb

/-- What the undotting reads off. -/
inductive Und : List UInt8 → List UInt8 → Prop
  | stop : Und [46, 13, 10] []
  | dot (t r d : List UInt8) : (10 : UInt8) ∉ t → t ≠ [13] → Und r d → Und (46 :: t ++ 10 :: r) (t ++ 10 :: d)
  | line (ln r d : List UInt8) : (10 : UInt8) ∉ ln → ln.head? ≠ some 46 → Und r d → Und (ln ++ 10 :: r) (ln ++ 10 :: d)

theorem Und.split {R D : List UInt8} (h : Und R D) : ∃ ln r, R = ln ++ 10 :: r ∧ (10 : UInt8) ∉ ln ∧
    ((ln = [46, 13] ∧ r = [] ∧ D = []) ∨ (∃ t d, ln = 46 :: t ∧ t ≠ [13] ∧ D = t ++ 10 :: d ∧ Und r d) ∨ (∃ d, ln.head? ≠ some 46 ∧ D = ln ++ 10 :: d ∧ Und r d)) := by
  cases h with
  | stop => exact ⟨[46, 13], [], rfl, by decide, .inl ⟨rfl, rfl, rfl⟩⟩
  | dot t r d h1 h2 h3 => exact ⟨46 :: t, r, rfl, by simp [h1], .inr (.inl ⟨t, d, rfl, h2, rfl, h3⟩)⟩
  | line ln r d h1 h2 h3 => exact ⟨ln, r, rfl, h1, .inr (.inr ⟨d, h2, rfl, h3⟩)⟩

theorem undotted (w : World) (R D : List UInt8) (hu : Und R D) (hR : R.length ≤ 100000) : Calls Tryz.prog 11 #[str R] w fun e w' => e = .returned (.tuple #[str D, str [], .bool true]) ∧ w' = w := by
  go_enter Tryz.func11, Tryz.ntmps11
  go_wp2_with fail
  go_loopw [0, 2] (fun a b wr => ∃ R1 D0 D1, a = str R1 ∧ b = str D0 ∧ Und R1 D1 ∧ D = D0 ++ D1 ∧ D0.length + R1.length ≤ 100000 ∧ w = wr) (fun a b wr => (match a with | .string s => s.size | _ => 0))
  case atStart => exact ⟨R, [], D, rfl, rfl, hu, rfl, by simpa using hR, rfl⟩
  case round =>
    obtain ⟨R1, D0, D1, rfl, rfl, hu1, hD, hl, rfl⟩ := hrel
    obtain ⟨ln, r, hR1, h10, hway⟩ := hu1.split
    have hne : R1.isEmpty = false := by subst hR1; simp
    have H10 := Lib.hid h10; clear h10
    have HR1 := Lib.hid hR1; clear hR1
    have HU := Lib.hid hway; clear hway hu1
    have HD := Lib.hid hD; clear hD
    go_wp2_with fail
    go_loopw [5] (fun i wr => ∃ k : Nat, k ≤ ln.length ∧ i = .int .i64 k ∧ w = wr) (fun i wr => ln.length - (intOf i).toNat)
    case atStart => exact ⟨0, Nat.zero_le _, rfl, rfl⟩
    case round =>
      obtain ⟨k, hk, rfl, rfl⟩ := hrel
      have hRl : R1.length = ln.length + 1 + r.length := by rw [HR1.out]; simp; omega
      have hkl : k < R1.length := by omega
      have hks : (0 : Int) ≤ k ∧ (k : Int) < (R1.length : Int) := by omega
      by_cases hlt : k < ln.length
      · have x0 := get_mk R1 k (ln[k]'hlt) (by rw [HR1.out, List.getElem?_append_left hlt]; simp [hlt])
        have x1 : ln[k]'hlt ≠ 10 := fun e => H10.out (e ▸ List.getElem_mem hlt)
        generalize ln[k]'hlt = b at x0 x1
        have x2 : ((b.toNat : Int) != 10) = true := by
          rw [bne_iff_ne]; intro e; apply x1; apply UInt8.toNat_inj.mp
          have : b.toNat = 10 := by omega
          exact this
        clear x1
        go_wp2_with fail
        go_roundw
        case rel => exact ⟨k + 1, by omega, by go_num, trivial⟩
        case measure => simp [intOf]; omega
      · obtain rfl : k = ln.length := by omega
        have x0 := get_mk R1 ln.length 10 (by rw [HR1.out]; simp)
        have x2 : ((ln.length : Int) == R1.length) = false := by rw [beq_eq_false_iff_ne]; omega
        have e1 : (⟨R1.toArray⟩ : ByteArray).extract 0 (ln.length + 1) = ⟨(ln ++ [10]).toArray⟩ := by
          rw [HR1.out, show ln ++ 10 :: r = (ln ++ [10]) ++ r by simp]; exact ex_head _ _ _ (by simp)
        have e2 : (⟨R1.toArray⟩ : ByteArray).extract (ln.length + 1) R1.length = ⟨r.toArray⟩ := by
          rw [HR1.out, show ln ++ 10 :: r = (ln ++ [10]) ++ r by simp]; exact ex_tail _ _ _ _ (by simp) rfl
        have E1 := Lib.hid e1
        have E2 := Lib.hid e2
        have f2 : 0 < min (ln.length + 1) R1.length := by omega
        have HRL := Lib.hid hRl; clear hRl
        rcases HU.out with ⟨hln, hr, hd⟩ | ⟨t, d, hln, ht, hd, hur⟩ | ⟨d, hln, hd, hur⟩
        · have f1 : (((⟨R1.toArray⟩ : ByteArray).extract 0 (ln.length + 1)).toList == [46, 13, 10]) = true := by rw [e1, hln]; simp
          clear e1 e2
          have HR := Lib.hid hr; have HDD := Lib.hid hd; have HLN := Lib.hid hln
          clear hr hd hln
          go_wp2_with fail
          go_ret3
          rw [E2.out, HR.out, HD.out, HDD.out]
          simp
        · have f1 : (((⟨R1.toArray⟩ : ByteArray).extract 0 (ln.length + 1)).toList == [46, 13, 10]) = false := by
            rw [e1, hln, ByteArray.toList_mk]
            rw [beq_eq_false_iff_ne]
            intro e; apply ht
            simp at e
            cases t with
            | nil => simp at e
            | cons a u => simp at e; obtain ⟨rfl, e⟩ := e; cases u with
              | nil => rfl
              | cons b v => simp at e
          have f3 : ∀ h : 0 < ((⟨R1.toArray⟩ : ByteArray).extract 0 (ln.length + 1)).size, ((⟨R1.toArray⟩ : ByteArray).extract 0 (ln.length + 1))[0]'h = 46 := by
            rw [e1, hln]; exact get_mk _ 0 46 rfl
          have f4 : ¬ 9223372036854775807 < D0.length + (min (ln.length + 1) R1.length - 1) := by omega
          have E3 : Hid (((⟨R1.toArray⟩ : ByteArray).extract 0 (ln.length + 1)).extract 1 (min (ln.length + 1) R1.length) = ⟨(t ++ [10]).toArray⟩) := by
            show _ = _
            rw [e1, hln, show (46 :: t ++ [10]) = [46] ++ (t ++ [10]) by simp]
            exact ex_tail _ _ _ _ (by simp) (by have := HRL.out; rw [hln] at this; simp at this ⊢; omega)
          clear e1 e2
          have HDD := Lib.hid hd; have HLN := Lib.hid hln
          clear hd hln ht
          go_wp2_with fail
          go_roundw
          case rel =>
            refine ⟨r, D0 ++ (t ++ [10]), d, by rw [E2.out], ?_, hur, ?_, ?_, trivial⟩
            · rw [E3.out, bcat]
            · rw [HD.out, HDD.out]; simp
            · have := HRL.out; have := HLN.out; subst this; simp at this ⊢; omega
          case measure =>
            rw [E2.out]
            show r.length < R1.length
            have := HRL.out; omega
        · have f1 : (((⟨R1.toArray⟩ : ByteArray).extract 0 (ln.length + 1)).toList == [46, 13, 10]) = false := by
            rw [e1, ByteArray.toList_mk]
            rw [beq_eq_false_iff_ne]
            intro e; apply hln
            cases ln with
            | nil => simp at e
            | cons a u => simp at e; obtain ⟨rfl, e⟩ := e; rfl
          have f4 : ¬ 9223372036854775807 < D0.length + min (ln.length + 1) R1.length := by omega
          obtain ⟨b0, hb0, hb1⟩ : ∃ b0 : UInt8, (ln ++ [10])[0]? = some b0 ∧ b0 ≠ 46 := by
            cases ln with
            | nil => exact ⟨10, rfl, by decide⟩
            | cons a u => exact ⟨a, rfl, fun e => hln (by rw [e]; rfl)⟩
          have f3 : ∀ h : 0 < ((⟨R1.toArray⟩ : ByteArray).extract 0 (ln.length + 1)).size, ((⟨R1.toArray⟩ : ByteArray).extract 0 (ln.length + 1))[0]'h = b0 := by
            rw [e1]; exact get_mk _ 0 b0 hb0
          have f5 : ((b0.toNat : Int) == 46) = false := by
            rw [beq_eq_false_iff_ne]; intro e; apply hb1; apply UInt8.toNat_inj.mp
            have : b0.toNat = 46 := by omega
            exact this
          clear e1 e2 hb0 hb1
          have HDD := Lib.hid hd
          clear hd hln
          go_wp2_with fail
          go_roundw
          case rel =>
            refine ⟨r, D0 ++ (ln ++ [10]), d, by rw [E2.out], ?_, hur, ?_, ?_, trivial⟩
            · rw [E1.out, bcat]
            · rw [HD.out, HDD.out]; simp
            · have := HRL.out; simp; omega
          case measure =>
            rw [E2.out]
            show r.length < R1.length
            have := HRL.out; omega
end Go.Proofs.YtejckkeahmpcmaaGreatDoor
