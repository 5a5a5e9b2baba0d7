/-
  The plain side of seek: blank lines, line by line. No Go in sight. By a prover of this seat.
-/
namespace Go.Proofs.Qxb6601160aMods.Seek

def step (l : Bool) (b : Int) : Option Bool :=
  if b == 10 then some true else if !l then some false else if b == 32 then some true else if b == 35 then some false else none
def st : Bool → List Int → Option Bool
  | l, [] => some l
  | l, b :: r => (step l b).bind fun l' => st l' r

theorem st_append : ∀ (l : Bool) (xs ys : List Int), st l (xs ++ ys) = (st l xs).bind fun l' => st l' ys
  | l, [], ys => rfl
  | l, b :: xs, ys => by
    show (step l b).bind (fun l' => st l' (xs ++ ys)) = ((step l b).bind fun l' => st l' xs).bind fun l' => st l' ys
    cases step l b with
    | none => rfl
    | some l' => exact st_append l' xs ys

/-- the state behind the bytes from f up to k -/
def S (zs : List Int) (f k : Nat) : Option Bool := st true ((zs.take k).drop f)

theorem S_start (zs : List Int) (f k : Nat) (h : k ≤ f) : S zs f k = some true := by
  unfold S
  rw [List.drop_eq_nil_of_le (by rw [List.length_take]; omega)]
  rfl
theorem S_succ (zs : List Int) (n f k : Nat) (hl : zs.length = n) (hf : f ≤ k) (hk : k < n) : S zs f (k + 1) = (S zs f k).bind fun l => step l (zs[k]?.getD 0) := by
  have hk' : k < zs.length := by omega
  have e : (zs.take (k + 1)).drop f = (zs.take k).drop f ++ [zs[k]?.getD 0] := by
    rw [List.take_succ_eq_append_getElem hk', List.drop_append_of_le_length (by rw [List.length_take]; omega)]
    simp [List.getElem?_eq_getElem hk']
  unfold S
  rw [e, st_append]
  cases st true ((zs.take k).drop f) with
  | none => rfl
  | some l =>
    show (step l (zs[k]?.getD 0)).bind (fun l' => st l' []) = step l (zs[k]?.getD 0)
    cases step l (zs[k]?.getD 0) <;> rfl
theorem S_past (zs : List Int) (n f k : Nat) (hl : zs.length = n) (hk : n ≤ k) : S zs f k = st true (zs.drop f) := by
  unfold S; rw [List.take_of_length_le (by omega)]
/-- once fallen, always fallen -/
theorem S_none (zs : List Int) (n f : Nat) (hl : zs.length = n) : ∀ (d k : Nat), f ≤ k → k + d ≤ n → S zs f k = none → S zs f (k + d) = none
  | 0, k, _, _, h => h
  | d + 1, k, hf, hk, h => by
    have := S_none zs n f hl d k hf (by omega) h
    show S zs f (k + d + 1) = none
    rw [S_succ zs n f (k + d) hl (by omega) (by omega), this]
    rfl

/-- the round's relation: a line begins at f -/
def SInv (zs : List Int) (n f0 f : Nat) : Prop :=
  f0 ≤ f ∧ (f0 < f → f ≤ n + 1) ∧ (f0 < f → f ≤ n → zs[f - 1]?.getD 0 = 10) ∧ ∃ l, S zs f0 f = some l ∧ (f ≤ n → l = true)

theorem SInv.start (zs : List Int) (n f0 : Nat) : SInv zs n f0 f0 :=
  ⟨Nat.le_refl _, fun h => absurd h (by omega), fun h => absurd h (by omega), true, S_start zs f0 f0 (Nat.le_refl _), fun _ => rfl⟩

structure Line (zs : List Int) (n f E : Nat) : Prop where
  le : f ≤ E
  top : E ≤ n
  no : ∀ i, f ≤ i → i < E → zs[i]?.getD 0 ≠ 10
  stop : E = n ∨ zs[E]?.getD 0 = 10

theorem spaces {zs : List Int} {n f0 f : Nat} (hl : zs.length = n) (h : SInv zs n f0 f) (hf : f < n) : ∀ (d : Nat), f + d ≤ n → (∀ i, f ≤ i → i < f + d → zs[i]?.getD 0 = 32) → S zs f0 (f + d) = some true
  | 0, _, _ => by
    obtain ⟨_, _, _, l, h1, h2⟩ := h
    rw [h2 (by omega)] at h1
    exact h1
  | d + 1, hd, hs => by
    have ih := spaces hl h hf d (by omega) (fun i a b => hs i a (by omega))
    show S zs f0 (f + d + 1) = some true
    rw [S_succ zs n f0 (f + d) hl (by have := h.1; omega) (by omega), ih]
    have := hs (f + d) (by omega) (by omega)
    show step true (zs[f + d]?.getD 0) = some true
    rw [this]; rfl

theorem comment {zs : List Int} {n f0 a : Nat} (hl : zs.length = n) (ha : f0 ≤ a) (h : S zs f0 a = some false) : ∀ (d : Nat), a + d ≤ n → (∀ i, a ≤ i → i < a + d → zs[i]?.getD 0 ≠ 10) → S zs f0 (a + d) = some false
  | 0, _, _ => h
  | d + 1, hd, hs => by
    have ih := comment hl ha h d (by omega) (fun i a b => hs i a (by omega))
    show S zs f0 (a + d + 1) = some false
    rw [S_succ zs n f0 (a + d) hl (by omega) (by omega), ih]
    have := hs (a + d) (by omega) (by omega)
    show step false (zs[a + d]?.getD 0) = some false
    have h10 : (zs[a + d]?.getD 0 == 10) = false := by simpa using this
    simp [step, this]

/-- a line that is blanks alone, or blanks and then a '#' -/
theorem SInv.next {zs : List Int} {n f0 f E a : Nat} (hl : zs.length = n) (h : SInv zs n f0 f) (hf : f < n) (L : Line zs n f E) (h1 : f ≤ a) (h2 : a ≤ E) (hs : ∀ i, f ≤ i → i < a → zs[i]?.getD 0 = 32) (hc : a = E ∨ zs[a]?.getD 0 = 35) : SInv zs n f0 (E + 1) := by
  have hf0 := h.1
  have hle := L.le
  have htop := L.top
  have hSa : S zs f0 a = some true := by
    have := spaces hl h hf (a - f) (by omega) (fun i p q => hs i p (by omega))
    rwa [show f + (a - f) = a by omega] at this
  have hSE : ∃ l, S zs f0 E = some l := by
    by_cases e : a = E
    · subst e; exact ⟨true, hSa⟩
    · have h35 := hc.resolve_left e
      have hS1 : S zs f0 (a + 1) = some false := by
        rw [S_succ zs n f0 a hl (by omega) (by omega), hSa]
        show step true (zs[a]?.getD 0) = some false
        rw [h35]; rfl
      have := comment hl (by omega) hS1 (E - (a + 1)) (by omega) (fun i p q => L.no i (by omega) (by omega))
      rw [show a + 1 + (E - (a + 1)) = E by omega] at this
      exact ⟨false, this⟩
  obtain ⟨l, hl2⟩ := hSE
  refine ⟨by omega, fun _ => by omega, fun _ hn => ?_, ?_⟩
  · have : E ≠ n := by omega
    rw [show E + 1 - 1 = E by omega]
    exact L.stop.resolve_left this
  · by_cases hE : E = n
    · refine ⟨l, ?_, fun h => by omega⟩
      rw [S_past zs n f0 (E + 1) hl (by omega), ← S_past zs n f0 E hl (by omega)]
      exact hl2
    · refine ⟨true, ?_, fun _ => rfl⟩
      rw [S_succ zs n f0 E hl (by omega) (by omega), hl2]
      have := L.stop.resolve_left hE
      show step l (zs[E]?.getD 0) = some true
      rw [this]; rfl

/-- the line that is found -/
structure Found (zs : List Int) (n f0 f E a : Nat) : Prop where
  p0 : f0 ≤ f
  p1 : f ≤ a
  p2 : a < E
  p3 : E ≤ n
  p4 : f0 < f → zs[f - 1]?.getD 0 = 10
  p5 : S zs f0 f = some true
  p6 : S zs f0 n = none
  p7 : ∀ i, f ≤ i → i < a → zs[i]?.getD 0 = 32
  p8 : zs[a]?.getD 0 ≠ 32
  p9 : zs[a]?.getD 0 ≠ 35
  p10 : ∀ i, f ≤ i → i < E → zs[i]?.getD 0 ≠ 10
  p11 : E = n ∨ zs[E]?.getD 0 = 10

theorem SInv.found {zs : List Int} {n f0 f E a : Nat} (hl : zs.length = n) (h : SInv zs n f0 f) (hf : f < n) (L : Line zs n f E) (h1 : f ≤ a) (h2 : a < E) (hs : ∀ i, f ≤ i → i < a → zs[i]?.getD 0 = 32) (h32 : zs[a]?.getD 0 ≠ 32) (h35 : zs[a]?.getD 0 ≠ 35) : Found zs n f0 f E a := by
  have hf0 := h.1
  have htop := L.top
  have hSa : S zs f0 a = some true := by
    have := spaces hl h hf (a - f) (by omega) (fun i p q => hs i p (by omega))
    rwa [show f + (a - f) = a by omega] at this
  have hS1 : S zs f0 (a + 1) = none := by
    rw [S_succ zs n f0 a hl (by omega) (by omega), hSa]
    have h10 := L.no a h1 h2
    show step true (zs[a]?.getD 0) = none
    simp [step, h10, h32, h35]
  have hSn := S_none zs n f0 hl (n - (a + 1)) (a + 1) (by omega) (by omega) hS1
  rw [show a + 1 + (n - (a + 1)) = n by omega] at hSn
  refine ⟨hf0, h1, h2, htop, fun h' => h.2.2.1 h' (by omega), ?_, hSn, hs, h32, h35, L.no, L.stop⟩
  have := spaces hl h hf 0 (by omega) (fun i p q => by omega)
  exact this
/-- the end: every line is blank -/
theorem SInv.stop {zs : List Int} {n f0 f : Nat} (hl : zs.length = n) (h : SInv zs n f0 f) (hf : n ≤ f) : (S zs f0 n).isSome = true := by
  obtain ⟨_, _, _, l, h1, _⟩ := h
  rw [S_past zs n f0 f hl hf, ← S_past zs n f0 n hl (Nat.le_refl _)] at h1
  rw [h1]; rfl
end Go.Proofs.Qxb6601160aMods.Seek
