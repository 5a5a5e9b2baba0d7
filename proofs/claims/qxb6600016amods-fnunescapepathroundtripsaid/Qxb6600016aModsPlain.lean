/-
  The plain side of the path's escapes: no Go in sight. By a prover of this seat.
-/
namespace Go.Proofs.Qxb6600016aMods.Esc

def hexI (n : Int) (up : Bool) : Int := if n < 10 then 48 + n else if up then 55 + n else 87 + n
def isHexB (z : Int) : Bool := (decide (48 ≤ z) && decide (z ≤ 57)) || (decide (97 ≤ z) && decide (z ≤ 102)) || (decide (65 ≤ z) && decide (z ≤ 70))
def unhexI (z : Int) : Int := if z ≤ 57 then z - 48 else if 97 ≤ z then z - 87 else z - 55

/-- what unescapePath computes where each escape is whole -/
def dec : List Int → Option (List Int)
  | [] => some []
  | c :: r =>
    if c = 37 then
      match r with
      | a :: b :: r' => if isHexB a && isHexB b then (dec r').map (fun o => (unhexI a * 16 + unhexI b) :: o) else none
      | _ => none
    else (dec r).map (fun o => c :: o)

def encB (up : Bool) (c : Int) : List Int := [37, hexI (c / 16) up, hexI (c % 16) up]
def encP (must : Int → Bool) (up : Bool) (l : List Int) : List Int := l.flatMap fun c => if must c then encB up c else [c]
def mustB (c : Int) : Bool := c == 37 || decide (c < 33) || decide (127 ≤ c)

theorem hex_is (n : Int) (up : Bool) (h0 : 0 ≤ n) (h1 : n ≤ 15) : isHexB (hexI n up) = true := by
  unfold isHexB hexI
  cases up <;> by_cases h : n < 10 <;> simp [h] <;> omega
theorem unhex_hex (n : Int) (up : Bool) (h0 : 0 ≤ n) (h1 : n ≤ 15) : unhexI (hexI n up) = n := by
  unfold unhexI hexI
  cases up <;> by_cases h : n < 10 <;> simp [h] <;> omega
theorem hex_range (n : Int) (up : Bool) (h0 : 0 ≤ n) (h1 : n ≤ 15) : 48 ≤ hexI n up ∧ hexI n up ≤ 102 := by
  unfold hexI
  cases up <;> by_cases h : n < 10 <;> simp [h] <;> omega

theorem dec_esc (a b : Int) (r : List Int) (ha : isHexB a = true) (hb : isHexB b = true) : dec (37 :: a :: b :: r) = (dec r).map (fun o => (unhexI a * 16 + unhexI b) :: o) := by
  simp [dec, ha, hb]
theorem dec_lit (c : Int) (r : List Int) (h : c ≠ 37) : dec (c :: r) = (dec r).map (fun o => c :: o) := by
  rw [dec.eq_def]; simp [h]

theorem dec_enc (must : Int → Bool) (up : Bool) (hm : ∀ c, must c = false → c ≠ 37) : ∀ l : List Int, (∀ c ∈ l, 0 ≤ c ∧ c ≤ 255) → dec (encP must up l) = some l
  | [], _ => by simp [encP, dec]
  | c :: l, h => by
    have ih := dec_enc must up hm l (fun x hx => h x (List.mem_cons_of_mem _ hx))
    obtain ⟨h0, h1⟩ := h c List.mem_cons_self
    have hcons : encP must up (c :: l) = (if must c then encB up c else [c]) ++ encP must up l := by simp [encP]
    rw [hcons]
    cases hc : must c
    · simp only [Bool.false_eq_true, if_false, List.singleton_append]
      rw [dec_lit c _ (hm c hc), ih]; rfl
    · simp only [if_true, encB, List.cons_append, List.nil_append]
      rw [dec_esc _ _ _ (hex_is _ _ (by omega) (by omega)) (hex_is _ _ (by omega) (by omega)), ih, unhex_hex _ _ (by omega) (by omega), unhex_hex _ _ (by omega) (by omega)]
      simp; omega

theorem enc_range (must : Int → Bool) (up : Bool) (l : List Int) (h : ∀ c ∈ l, 0 ≤ c ∧ c ≤ 255) : ∀ z ∈ encP must up l, 0 ≤ z ∧ z ≤ 255 := by
  intro z hz
  unfold encP at hz
  rw [List.mem_flatMap] at hz
  obtain ⟨c, hc, hz⟩ := hz
  obtain ⟨h0, h1⟩ := h c hc
  split at hz
  · have a1 := hex_range (c / 16) up (by omega) (by omega)
    have a2 := hex_range (c % 16) up (by omega) (by omega)
    simp [encB] at hz
    rcases hz with rfl | rfl | rfl <;> omega
  · simp at hz; subst hz; exact ⟨h0, h1⟩

theorem enc_length (must : Int → Bool) (up : Bool) : ∀ l : List Int, (encP must up l).length ≤ 3 * l.length
  | [] => by simp [encP]
  | c :: l => by
    have ih := enc_length must up l
    have hcons : encP must up (c :: l) = (if must c then encB up c else [c]) ++ encP must up l := by simp [encP]
    rw [hcons]
    cases hc : must c <;> simp [encB] <;> omega

theorem enc_snoc (must : Int → Bool) (up : Bool) (l : List Int) (c : Int) : encP must up (l ++ [c]) = encP must up l ++ (if must c then encB up c else [c]) := by
  simp [encP]

theorem dec_length : ∀ (n : Nat) (P o : List Int), P.length ≤ n → dec P = some o → o.length ≤ P.length
  | 0, P, o, hn, h => by
    obtain rfl : P = [] := List.eq_nil_of_length_eq_zero (by omega)
    simp [dec] at h; subst h; simp
  | n + 1, [], o, hn, h => by simp [dec] at h; subst h; simp
  | n + 1, c :: r, o, hn, h => by
    rw [dec.eq_def] at h
    simp only at h
    split at h
    · split at h
      · split at h
        · rename_i a b r' _
          obtain ⟨o', ho', rfl⟩ := Option.map_eq_some_iff.1 h
          have := dec_length n r' o' (by simp at hn; omega) ho'
          simp; omega
        · cases h
      · cases h
    · obtain ⟨o', ho', rfl⟩ := Option.map_eq_some_iff.1 h
      have := dec_length n r o' (by simp at hn; omega) ho'
      simp; omega

/-- a text without a '%' decodes to itself; one with a first '%' goes through up to it -/
theorem dec_plain : ∀ (pre r : List Int), (∀ c ∈ pre, c ≠ 37) → dec (pre ++ r) = (dec r).map (fun o => pre ++ o)
  | [], r, _ => by simp
  | c :: pre, r, h => by
    rw [List.cons_append, dec_lit c _ (h c List.mem_cons_self), dec_plain pre r (fun x hx => h x (List.mem_cons_of_mem _ hx))]
    cases dec r <;> simp

/-- the first escape is whole -/
theorem dec_head (r o : List Int) (h : dec (37 :: r) = some o) : ∃ a b r' o', r = a :: b :: r' ∧ isHexB a = true ∧ isHexB b = true ∧ dec r' = some o' ∧ o = (unhexI a * 16 + unhexI b) :: o' := by
  match r, h with
  | [], h => simp [dec] at h
  | [a], h => simp [dec] at h
  | a :: b :: r', h =>
    rw [dec.eq_def] at h
    simp only [if_true] at h
    split at h
    · rename_i hh
      simp at hh
      obtain ⟨o', ho', rfl⟩ := Option.map_eq_some_iff.1 h
      exact ⟨a, b, r', o', rfl, hh.1, hh.2, ho', rfl⟩
    · cases h
theorem dec_head' (c : Int) (r o : List Int) (hc : c ≠ 37) (h : dec (c :: r) = some o) : ∃ o', dec r = some o' ∧ o = c :: o' := by
  rw [dec_lit c r hc] at h
  obtain ⟨o', ho', rfl⟩ := Option.map_eq_some_iff.1 h
  exact ⟨o', ho', rfl⟩
end Go.Proofs.Qxb6600016aMods.Esc
