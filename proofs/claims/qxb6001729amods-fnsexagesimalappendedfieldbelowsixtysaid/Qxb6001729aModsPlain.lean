/-
  The plain side of the base-60 reader: no Go in sight. By a prover of this seat.
-/
namespace Go.Proofs.Qxb6001729aMods.Sexa

def digB (z : Int) : Bool := decide (48 ≤ z) && decide (z ≤ 57)
def lowB (z : Int) : Bool := decide (48 ≤ z) && decide (z ≤ 53)

def skipD : List Int → List Int
  | [] => []
  | c :: r => if digB c || c == 95 then skipD r else c :: r

/-- ':' and a field below 60, again and again; what is left behind them -/
def flds : List Int → Option (List Int)
  | [] => some []
  | c :: r =>
    if c = 58 then
      match r with
      | [] => none
      | [x] => if digB x then some [] else none
      | x :: y :: t => if lowB x && digB y then flds t else if digB x then flds (y :: t) else none
    else some (c :: r)

def endB : List Int → Bool
  | [] => true
  | c :: q => c == 46 && (skipD q).isEmpty
def isColon : List Int → Bool
  | [] => false
  | c :: _ => c == 58
def fin (R : List Int) : Bool := isColon R && (match flds R with | none => false | some Q => endB Q)
def startB : List Int → List Int
  | [] => []
  | c :: r => if c == 43 || c == 45 then r else c :: r
def bodyB : List Int → Bool
  | [] => false
  | c :: r => digB c && fin (skipD r)
def sexa (L : List Int) : Bool := L.contains 58 && bodyB (startB L)

theorem dig_not {z : Int} (h : digB z = true) : z ≠ 58 ∧ z ≠ 43 ∧ z ≠ 45 ∧ z ≠ 46 ∧ z ≠ 95 := by
  simp [digB] at h; omega

theorem skipD_all : ∀ (ds t : List Int), (∀ c ∈ ds, digB c = true) → skipD (ds ++ t) = skipD t
  | [], t, _ => rfl
  | c :: ds, t, h => by
    rw [List.cons_append, skipD, h c List.mem_cons_self]
    simp only [Bool.true_or, if_true]
    exact skipD_all ds t (fun x hx => h x (List.mem_cons_of_mem _ hx))
theorem skipD_colon (t : List Int) : skipD (58 :: t) = 58 :: t := by
  rw [skipD]; rfl
theorem skipD_app : ∀ (r t : List Int), skipD r ≠ [] → skipD (r ++ t) = skipD r ++ t
  | [], t, h => absurd rfl h
  | c :: r, t, h => by
    rw [List.cons_append, skipD, skipD]
    rw [skipD] at h
    split
    · rename_i hc
      rw [if_pos hc] at h
      exact skipD_app r t h
    · simp
theorem skipD_suffix : ∀ r : List Int, ∃ p, r = p ++ skipD r
  | [] => ⟨[], rfl⟩
  | c :: r => by
    rw [skipD]
    split
    · obtain ⟨p, hp⟩ := skipD_suffix r
      exact ⟨c :: p, by rw [List.cons_append, ← hp]⟩
    · exact ⟨[], rfl⟩

theorem flds_two (x y : Int) (t : List Int) : flds (58 :: x :: y :: t) = if lowB x && digB y then flds t else if digB x then flds (y :: t) else none := by
  conv => lhs; rw [flds.eq_def]
  simp
theorem flds_one (x : Int) : flds [58, x] = if digB x then some [] else none := by
  conv => lhs; rw [flds.eq_def]
  simp
theorem flds_zero : flds [58] = none := by
  conv => lhs; rw [flds.eq_def]
  simp
theorem flds_other (c : Int) (r : List Int) (h : c ≠ 58) : flds (c :: r) = some (c :: r) := by
  rw [flds.eq_def]; simp [h]
theorem flds_nil : flds [] = some [] := by rw [flds.eq_def]

/-- what is left is a suffix -/
theorem flds_suffix : ∀ (n : Nat) (R Q : List Int), R.length ≤ n → flds R = some Q → ∃ p, R = p ++ Q
  | 0, R, Q, hn, h => by
    obtain rfl : R = [] := List.eq_nil_of_length_eq_zero (by omega)
    rw [flds_nil] at h; cases h; exact ⟨[], rfl⟩
  | n + 1, [], Q, hn, h => by rw [flds_nil] at h; cases h; exact ⟨[], rfl⟩
  | n + 1, c :: r, Q, hn, h => by
    by_cases hc : c = 58
    · subst hc
      match r, h with
      | [], h => rw [flds_zero] at h; cases h
      | [x], h =>
        rw [flds_one] at h
        split at h
        · cases h; exact ⟨[58, x], rfl⟩
        · cases h
      | x :: y :: t, h =>
        rw [flds_two] at h
        split at h
        · obtain ⟨p, hp⟩ := flds_suffix n t Q (by simp at hn; omega) h
          exact ⟨58 :: x :: y :: p, by rw [hp]; rfl⟩
        · split at h
          · obtain ⟨p, hp⟩ := flds_suffix n (y :: t) Q (by simp at hn ⊢; omega) h
            exact ⟨58 :: x :: p, by rw [hp]; rfl⟩
          · cases h
    · rw [flds_other c r hc] at h; cases h; exact ⟨[], rfl⟩

theorem flds_app : ∀ (n : Nat) (R t : List Int), R.length ≤ n → flds R = some [] → flds (R ++ 58 :: t) = flds (58 :: t)
  | 0, R, t, hn, h => by
    obtain rfl : R = [] := List.eq_nil_of_length_eq_zero (by omega)
    rfl
  | n + 1, [], t, hn, h => rfl
  | n + 1, c :: r, t, hn, h => by
    by_cases hc : c = 58
    · subst hc
      match r, h with
      | [], h => rw [flds_zero] at h; cases h
      | [x], h =>
        rw [flds_one] at h
        split at h
        · rename_i hx
          show flds (58 :: x :: 58 :: t) = _
          rw [flds_two, if_neg (by simp [digB]), if_pos hx]
        · cases h
      | x :: y :: r', h =>
        rw [flds_two] at h
        show flds (58 :: x :: y :: (r' ++ 58 :: t)) = _
        rw [flds_two]
        split at h
        · rename_i hx
          rw [if_pos hx]
          exact flds_app n r' t (by simp at hn; omega) h
        · rename_i hx
          rw [if_neg hx]
          split at h
          · rename_i hd
            rw [if_pos hd]
            exact flds_app n (y :: r') t (by simp at hn ⊢; omega) h
          · cases h
    · rw [flds_other c r hc] at h; cases h

def wantTwo (a b : Int) : Bool := (lowB a && digB b) || (digB a && b == 46)

theorem fin_one (a : Int) : fin [58, a] = digB a := by
  unfold fin
  rw [flds_one]
  cases digB a <;> rfl
theorem fin_two (a b : Int) : fin [58, a, b] = wantTwo a b := by
  unfold fin wantTwo
  rw [flds_two]
  cases h1 : (lowB a && digB b)
  · simp only [Bool.false_eq_true, if_false, Bool.false_or]
    cases h2 : digB a
    · rfl
    · simp only [if_true, Bool.true_and]
      by_cases hb : b = 58
      · subst hb; rw [flds_zero]; rfl
      · rw [flds_other b [] hb]
        simp [isColon, endB, skipD]
  · simp only [if_true, flds_nil]
    rfl

/-- the reader behind s, where s is a run of digits or is taken, and holds no '.' -/
theorem sexa_app (s t : List Int) (hdot : ∀ c ∈ s, c ≠ 46) (h : (s ≠ [] ∧ ∀ c ∈ s, digB c = true) ∨ sexa s = true) : sexa (s ++ 58 :: t) = fin (58 :: t) := by
  have h58 : (s ++ 58 :: t).contains 58 = true := by simp
  unfold sexa
  rw [h58, Bool.true_and]
  rcases h with ⟨hne, hall⟩ | h
  · match s, hne, hall with
    | d :: ds, _, hall =>
      have hd := hall d List.mem_cons_self
      have hn := dig_not hd
      have hst : startB (d :: ds ++ 58 :: t) = d :: (ds ++ 58 :: t) := by
        rw [List.cons_append, startB]; simp [hn.2.1, hn.2.2.1]
      rw [hst, bodyB, hd, Bool.true_and, skipD_all ds _ (fun x hx => hall x (List.mem_cons_of_mem _ hx)), skipD_colon]
  · unfold sexa at h
    rw [Bool.and_eq_true] at h
    obtain ⟨_, hb⟩ := h
    have core : ∀ (c : Int) (r : List Int), (∀ x ∈ c :: r, x ≠ 46) → bodyB (c :: r) = true → bodyB (c :: (r ++ 58 :: t)) = fin (58 :: t) := by
      intro c r hd hb
      rw [bodyB, Bool.and_eq_true] at hb
      obtain ⟨hc, hf⟩ := hb
      rw [bodyB, hc, Bool.true_and]
      obtain ⟨p, hp⟩ := skipD_suffix r
      unfold fin at hf
      rw [Bool.and_eq_true] at hf
      obtain ⟨hco, hf⟩ := hf
      have hne : skipD r ≠ [] := by intro e; rw [e] at hco; cases hco
      rw [skipD_app r _ hne]
      cases hfl : flds (skipD r) with
      | none => rw [hfl] at hf; cases hf
      | some Q =>
        rw [hfl] at hf
        have hQ : Q = [] := by
          match Q, hf, hfl with
          | [], _, _ => rfl
          | q :: Q', hf, hfl =>
            exfalso
            obtain ⟨p2, hp2⟩ := flds_suffix _ _ _ (Nat.le_refl _) hfl
            have hmem : q ∈ c :: r := by
              rw [hp, hp2]; simp
            have := hd q hmem
            simp [endB, this] at hf
        subst hQ
        have happ := flds_app _ (skipD r) t (Nat.le_refl _) hfl
        unfold fin
        rw [happ]
        match hsk : skipD r, hne with
        | x :: xs, _ =>
          rw [hsk] at hco
          have hx : x = 58 := by simpa [isColon] using hco
          subst hx
          rfl
    match s, hb, hdot with
    | [], hb, _ => cases hb
    | c :: r, hb, hdot =>
      by_cases hsg : (c == 43 || c == 45) = true
      · have e1 : startB (c :: r) = r := by rw [startB, if_pos hsg]
        have e2 : startB (c :: r ++ 58 :: t) = r ++ 58 :: t := by rw [List.cons_append, startB, if_pos hsg]
        rw [e1] at hb
        rw [e2]
        match r, hb, hdot with
        | [], hb, _ => cases hb
        | c' :: r', hb, hdot => exact core c' r' (fun x hx => hdot x (List.mem_cons_of_mem _ hx)) hb
      · have e1 : startB (c :: r) = c :: r := by rw [startB, if_neg hsg]
        have e2 : startB (c :: r ++ 58 :: t) = c :: (r ++ 58 :: t) := by rw [List.cons_append, startB, if_neg hsg]
        rw [e1] at hb
        rw [e2]
        exact core c r hdot hb
end Go.Proofs.Qxb6001729aMods.Sexa
