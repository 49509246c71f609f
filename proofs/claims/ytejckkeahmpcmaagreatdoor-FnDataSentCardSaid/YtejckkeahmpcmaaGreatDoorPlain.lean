/- The plain law: undotting what was dotted gives the data back, its line ends as CRLF. No statement of the seat is proved here. -/
import Derived.Test.YtejckkeahmpcmaaGreatDoorUnd
import Derived.Test.YtejckkeahmpcmaaGreatDoorDclose
namespace Go.Proofs.YtejckkeahmpcmaaGreatDoor
set_option linter.unusedVariables false

/-- What is wanted. The mark: a line end stands ahead. -/
def wt : Bool → List UInt8 → List UInt8
  | true, [] => []
  | false, [] => [13, 10]
  | _, b :: r => (if b = 10 then [13, 10] else [b]) ++ wt (b == 10) r

/-- A line begun: as it is sent, as it is meant. -/
def Ok (p q : List UInt8) : Prop := (10 : UInt8) ∉ p ∧ ((p = 46 :: q ∧ q ≠ []) ∨ (p = q ∧ p ≠ [] ∧ p.head? ≠ some 46))

theorem Ok.push {p q : List UInt8} (h : Ok p q) {b : UInt8} (hb : b ≠ 10) : Ok (p ++ [b]) (q ++ [b]) := by
  obtain ⟨h1, h2⟩ := h
  refine ⟨by simp [h1]; exact fun e => hb e.symm, ?_⟩
  rcases h2 with ⟨rfl, h3⟩ | ⟨rfl, h3, h4⟩
  · exact .inl ⟨by simp, by simp⟩
  · refine .inr ⟨rfl, by simp, ?_⟩
    cases p with
    | nil => exact absurd rfl h3
    | cons a t => simpa using h4

/-- A line begun is ended. -/
theorem Ok.end {p q r d : List UInt8} (h : Ok p q) (hu : Und r d) : Und (p ++ 13 :: 10 :: r) (q ++ 13 :: 10 :: d) := by
  obtain ⟨h1, h2⟩ := h
  rcases h2 with ⟨rfl, h3⟩ | ⟨rfl, h3, h4⟩
  · have h5 : (10 : UInt8) ∉ q ++ [13] := by simp at h1 ⊢; exact h1
    have := Und.dot (q ++ [13]) r d h5 (by intro e; cases q with
      | nil => exact h3 rfl
      | cons a t => simp at e) hu
    simpa using this
  · have h5 : (10 : UInt8) ∉ p ++ [13] := by simpa using h1
    have := Und.line (p ++ [13]) r d h5 (by cases p with
      | nil => exact absurd rfl h3
      | cons a t => simpa using h4) hu
    simpa using this

theorem und_dots (l : List UInt8) : (∀ p q, Ok p q → Und (p ++ (dots 3 l ++ dotend (dotst 3 l))) (q ++ wt false l)) ∧ Und (dots 1 l ++ dotend (dotst 1 l)) (wt true l) := by
  induction l with
  | nil =>
    refine ⟨fun p q h => ?_, Und.stop⟩
    exact h.end Und.stop
  | cons b r ih =>
    obtain ⟨ih1, ih2⟩ := ih
    by_cases hb : b = 10
    · subst hb
      have e3 : dots 3 (10 :: r) = 13 :: 10 :: dots 1 r := rfl
      have e1 : dots 1 (10 :: r) = 13 :: 10 :: dots 1 r := rfl
      have f3 : dotst 3 (10 :: r) = dotst 1 r := rfl
      have f1 : dotst 1 (10 :: r) = dotst 1 r := rfl
      have g : ∀ x, wt x (10 :: r) = 13 :: 10 :: wt true r := fun x => by cases x <;> rfl
      rw [e3, e1, f3, f1, g, g]
      refine ⟨fun p q h => ?_, ?_⟩
      · exact h.end ih2
      · have := Und.line [13] _ _ (by decide) (by decide) ih2
        simpa using this
    · have hbb : (b == 10) = false := by simpa using hb
      have e3 : dots 3 (b :: r) = b :: dots 3 r := by simp [dots, dotout, dotnext, hb]
      have f3 : dotst 3 (b :: r) = dotst 3 r := by simp [dotst, dotnext, hb]
      have f1 : dotst 1 (b :: r) = dotst 3 r := by simp [dotst, dotnext, hb]
      have g : ∀ x, wt x (b :: r) = b :: wt false r := fun x => by cases x <;> simp [wt, hb, hbb]
      rw [e3, f3, f1, g, g]
      refine ⟨fun p q h => ?_, ?_⟩
      · have := ih1 _ _ (h.push hb)
        simpa using this
      · by_cases h46 : b = 46
        · subst h46
          have e1 : dots 1 (46 :: r) = 46 :: 46 :: dots 3 r := rfl
          rw [e1]
          have := ih1 [46, 46] [46] ⟨by decide, .inl ⟨rfl, by simp⟩⟩
          simpa using this
        · have e1 : dots 1 (b :: r) = b :: dots 3 r := by simp [dots, dotout, dotnext, hb, h46]
          rw [e1]
          have := ih1 [b] [b] ⟨by simp; exact fun e => hb e.symm, .inr ⟨rfl, by simp, by simpa using h46⟩⟩
          simpa using this

theorem und_data (l : List UInt8) : Und (dots 0 l ++ dotend (dotst 0 l)) (wt false l) := by
  cases l with
  | nil =>
    have := Und.line [13] _ _ (by decide) (by decide) Und.stop
    simpa [dots, dotst, dotend, wt] using this
  | cons b r =>
    have h := (und_dots (b :: r)).2
    have e1 : dots 0 (b :: r) = dots 1 (b :: r) := by simp [dots, dotout]
    have e2 : dotst 0 (b :: r) = dotst 1 (b :: r) := rfl
    have e3 : wt false (b :: r) = wt true (b :: r) := rfl
    rw [e1, e2, e3]; exact h

/-- The data, its line ends as CRLF. -/
def crl : List UInt8 → List UInt8
  | [] => []
  | b :: r => (if b = 10 then [13, 10] else [b]) ++ crl r

theorem crl_push (l : List UInt8) (b : UInt8) : crl (l ++ [b]) = crl l ++ (if b = 10 then [13, 10] else [b]) := by
  induction l with
  | nil => simp [crl]
  | cons a t ih => simp [crl, ih]

theorem wt_crl (l : List UInt8) : ∀ x, wt x l = crl l ++ (if l = [] then (if x then [] else [13, 10]) else if l.getLast? = some 10 then [] else [13, 10]) := by
  induction l with
  | nil => intro x; cases x <;> simp [wt, crl]
  | cons b r ih =>
    intro x
    have h1 : wt x (b :: r) = (if b = 10 then [13, 10] else [b]) ++ wt (b == 10) r := by cases x <;> rfl
    rw [h1, ih]
    cases r with
    | nil => by_cases hb : b = 10 <;> simp [crl, hb]
    | cons c t => simp [crl, List.getLast?_cons_cons]
end Go.Proofs.YtejckkeahmpcmaaGreatDoor
