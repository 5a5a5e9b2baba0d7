/-
  The head's words, read off without reckoning every one of them: for the row's closed facts, whose plain evaluation by the kernel outgrows the memory lid (the head is one long string, parted at its blanks). By a prover of this seat.
-/
import Derived.Test.Qxb6000801aModsRows
import Derived.WalkKit
import Derived.ProofKit
namespace Go.Proofs.Qxb6000801aMods.Head

theorem ws_word : ∀ (w r : List Char), w.all (· != ' ') = true → wordsSigns (w ++ ' ' :: r) = w :: wordsSigns r
  | [], r, _ => by simp [wordsSigns]
  | c :: w, r, h => by
    simp only [List.all_cons, Bool.and_eq_true] at h
    have ih := ws_word w r h.2
    have hc : c ≠ ' ' := by simpa using h.1
    rw [List.cons_append, wordsSigns.eq_3 _ _ (by intro e; exact hc e), ih]

def c1 : List Char := [104, 97, 114, 110, 101, 115, 115].map Char.ofNat
def c2 : List Char := [50, 55, 57, 102, 99, 102, 102, 55, 97, 56, 102, 99, 100, 51, 51, 99, 56, 102, 52, 102, 97, 56, 55, 98, 56, 98, 101, 57, 50, 99, 52, 97, 54, 99, 50, 101, 52, 55, 97, 56, 101, 52, 55, 98, 54, 53, 48, 98, 53, 55, 102, 56, 53, 56, 53, 55, 52, 57, 97, 52, 52, 56, 51, 53].map Char.ofNat
def c3 : List Char := [112, 117, 98, 108, 105, 99, 115, 117, 109, 115].map Char.ofNat
def c4 : List Char := [99, 117, 116].map Char.ofNat
def rest : List Char := [97, 116, 32, 101, 120, 97, 109, 112, 108, 101, 46, 99, 111, 109, 47, 99, 111, 110, 99, 111, 114, 100, 97, 116, 47, 99, 111, 110, 99, 111, 114, 100, 97, 116, 47, 122, 122, 108, 97, 119, 115, 95, 97, 112, 105, 95, 98, 49, 46, 70, 110, 83, 107, 105, 112, 83, 116, 97, 110, 100, 115, 83, 116, 105, 108, 108, 79, 110, 108, 121, 66, 101, 102, 111, 114, 101, 65, 68, 101, 108, 105, 109, 105, 116, 101, 114, 32, 101, 120, 97, 109, 112, 108, 101, 46, 99, 111, 109, 47, 99, 111, 110, 99, 111, 114, 100, 97, 116, 47, 99, 111, 110, 99, 111, 114, 100, 97, 116, 47, 122, 122, 108, 97, 119, 115, 95, 97, 112, 105, 95, 98, 49, 46, 70, 110, 83, 107, 105, 112, 73, 103, 110, 111, 114, 101, 115, 66, 121, 116, 101, 115, 65, 102, 116, 101, 114, 73, 116, 115, 69, 110, 100, 32, 101, 120, 97, 109, 112, 108, 101, 46, 99, 111, 109, 47, 99, 111, 110, 99, 111, 114, 100, 97, 116, 47, 99, 111, 110, 99, 111, 114, 100, 97, 116, 47, 122, 122, 108, 97, 119, 115, 95, 97, 112, 105, 95, 98, 49, 46, 70, 110, 83, 107, 105, 112, 83, 116, 114, 105, 110, 103, 82, 111, 117, 110, 100, 84, 114, 105, 112, 115, 81, 117, 111, 116, 101, 32, 101, 120, 97, 109, 112, 108, 101, 46, 99, 111, 109, 47, 99, 111, 110, 99, 111, 114, 100, 97, 116, 47, 99, 111, 110, 99, 111, 114, 100, 97, 116, 47, 122, 122, 108, 97, 119, 115, 95, 97, 112, 105, 95, 98, 49, 46, 70, 110, 83, 107, 105, 112, 83, 116, 114, 105, 110, 103, 83, 116, 111, 112, 115, 65, 116, 70, 105, 114, 115, 116, 85, 110, 101, 115, 99, 97, 112, 101, 100, 81, 117, 111, 116, 101, 32, 101, 120, 97, 109, 112, 108, 101, 46, 99, 111, 109, 47, 99, 111, 110, 99, 111, 114, 100, 97, 116, 47, 99, 111, 110, 99, 111, 114, 100, 97, 116, 47, 122, 122, 108, 97, 119, 115, 95, 97, 112, 105, 95, 98, 49, 46, 70, 110, 77, 111, 114, 101, 65, 100, 118, 97, 110, 99, 101, 115, 87, 105, 116, 104, 105, 110, 66, 111, 117, 110, 100, 115].map Char.ofNat
theorem io : Trym.prog.initOrder = String.ofList (c1 ++ ' ' :: (c2 ++ ' ' :: (c3 ++ ' ' :: (c4 ++ ' ' :: rest)))) := by kernel_rfl
theorem ws : ∃ R, wordsSigns Trym.prog.initOrder.toList = c1 :: c2 :: c3 :: c4 :: R := by
  refine ⟨wordsSigns rest, ?_⟩
  rw [io, String.toList_ofList, ws_word c1 _ (by kernel_rfl), ws_word c2 _ (by kernel_rfl), ws_word c3 _ (by kernel_rfl), ws_word c4 _ (by kernel_rfl)]
theorem headLifts_of (P : Program) (c : List Char) (rest R : List (List Char)) (hw : behindMainWord (wordsSigns P.initOrder.toList) = c :: rest) (hs : stripLifts liftWords (c :: rest) = (["publicsums"], "cut".toList :: R)) :
    P.headLifts = ["publicsums"] := by
  unfold Program.headLifts
  rw [hw, hs]
  exact if_pos (by rw [List.head?_cons]; exact beq_self_eq_true _)
theorem make_of (P : Program) (c : List Char) (rest : List (List Char)) (hw : behindMainWord (wordsSigns P.initOrder.toList) = c :: rest) (h1 : (c == "gc".toList) = false) (h2 : (c == "spec".toList) = false) (h3 : (c == "cut".toList) = false)
    (h4 : (c == "finals".toList) = false) (h5 : (c == "carried".toList) = false) (hl : P.headLifts = ["publicsums"]) : P.make = some (.lifted ["publicsums"]) := by
  unfold Program.make
  rw [hw]
  simp only [h1, h2, h3, h4, h5, hl]
  rfl
theorem lifts_of (P : Program) (c : List Char) (rest : List (List Char)) (hw : behindMainWord (wordsSigns P.initOrder.toList) = c :: rest) (h5 : (c == "carried".toList) = false) (hl : P.headLifts = ["publicsums"]) : P.liftsFinal = false := by
  unfold Program.liftsFinal
  rw [hw, hl]
  have h6 : (some c == some "carried".toList) = false := by
    have := beq_eq_false_iff_ne.1 h5
    apply beq_eq_false_iff_ne.2
    intro e
    exact this (Option.some.inj e)
  simp only [List.head?_cons, h6, Bool.false_and, Bool.false_or]
  rfl
theorem mayEnter_of (P : Program) (c : List Char) (rest R : List (List Char)) (hw : behindMainWord (wordsSigns P.initOrder.toList) = c :: rest) (hs : stripLifts liftWords (c :: rest) = (["publicsums"], "cut".toList :: R))
    (hl : P.laysLater = false) (hb : P.bearsReflect = false) (hd : P.doorFits ["publicsums"] = true) : P.mayEnter = true := by
  unfold Program.mayEnter
  rw [hw]
  simp only [hs, hl, hb, hd, List.head?_cons, beq_self_eq_true, Bool.not_false, Bool.or_true, Bool.true_and, Bool.and_true]
  rw [Bool.or_eq_true]
  exact .inr rfl
theorem behind (R : List (List Char)) : behindMainWord (c1 :: c2 :: c3 :: c4 :: R) = c3 :: c4 :: R := by kernel_rfl
theorem strip (R : List (List Char)) : stripLifts liftWords (c3 :: c4 :: R) = (["publicsums"], "cut".toList :: R) := by kernel_rfl
theorem c3_gc : (c3 == "gc".toList) = false := by kernel_rfl
theorem c3_spec : (c3 == "spec".toList) = false := by kernel_rfl
theorem c3_cut : (c3 == "cut".toList) = false := by kernel_rfl
theorem c3_finals : (c3 == "finals".toList) = false := by kernel_rfl
theorem c3_carried : (c3 == "carried".toList) = false := by kernel_rfl
theorem lays : Trym.prog.laysLater = false := by kernel_rfl
theorem bears : Trym.prog.bearsReflect = false := by kernel_rfl
theorem rows : Trym.prog.doorRows = [] := by kernel_rfl
theorem door_of (P : Program) (h : P.doorRows = []) : P.doorFits ["publicsums"] = true := by
  unfold Program.doorFits
  rw [h]
  kernel_rfl
theorem hw : ∃ R, behindMainWord (wordsSigns Trym.prog.initOrder.toList) = c3 :: c4 :: R := by
  obtain ⟨R, hR⟩ := ws
  exact ⟨R, (congrArg behindMainWord hR).trans (behind R)⟩
theorem headLifts : Trym.prog.headLifts = ["publicsums"] := by
  obtain ⟨R, h⟩ := hw
  exact headLifts_of Trym.prog c3 (c4 :: R) R h (strip R)
theorem mayEnter : Trym.prog.mayEnter = true := by
  obtain ⟨R, h⟩ := hw
  exact mayEnter_of Trym.prog c3 (c4 :: R) R h (strip R) lays bears (door_of Trym.prog rows)
theorem lifts : Trym.prog.liftsFinal = false := by
  obtain ⟨R, h⟩ := hw
  exact lifts_of Trym.prog c3 (c4 :: R) h c3_carried headLifts
theorem make : Trym.prog.make = some (.lifted ["publicsums"]) := by
  obtain ⟨R, h⟩ := hw
  exact make_of Trym.prog c3 (c4 :: R) h c3_gc c3_spec c3_cut c3_finals c3_carried headLifts
theorem closed : joinedFacts Trym.prog 3 Trym.f3 Rows.fnSkipStandsStillOnlyBeforeADelimiterSpec Rows.fnSkipStandsStillOnlyBeforeADelimiterRow = true := by
  unfold joinedFacts
  rw [mayEnter, lifts, make]
  kernel_rfl
end Go.Proofs.Qxb6000801aMods.Head
