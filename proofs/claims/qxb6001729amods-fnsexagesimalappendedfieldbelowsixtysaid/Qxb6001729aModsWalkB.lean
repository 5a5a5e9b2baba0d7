/-
  The clone, withTail, the shim. By a prover of this seat.
-/
import Derived.Test.Qxb6001729aModsWalkA
import Derived.Deep.OwnRows
namespace Go.Proofs.Qxb6001729aMods.Sexa
open Go.ChangeShapes Go.WideShapes Go.ChangeAt Go.RowKit

theorem info5 : (Trym.prog.info? 5).map (fun i => (i.zero, i.size, i.bytes)) = some (some (.int .u8 0), 1, 1) := by kernel_rfl

theorem colI_neg (zs : List Int) (hz : ∀ c ∈ zs, 0 ≤ c ∧ c ≤ 255) : colI zs < 0 ↔ zs.contains 58 = false := by
  have key : ∀ k : Nat, (Lib.bytesOf zs)[k]? = some 58 ↔ zs[k]? = some 58 := by
    intro k
    unfold Lib.bytesOf
    rw [List.getElem?_map]
    cases hk : zs[k]? with
    | none => simp
    | some z =>
      obtain ⟨h0, h1⟩ := hz z (List.mem_of_getElem? hk)
      simp only [Option.map_some, Option.some.injEq]
      constructor
      · intro e
        have := congrArg UInt8.toNat e
        simp at this
        omega
      · intro e; subst e; rfl
  unfold colI
  constructor
  · intro h
    have hge := Lib.indexByte_ge (Lib.bytesOf zs) 58
    have hn := Lib.indexByte_none (show Lib.indexByte (Lib.bytesOf zs) 58 = -1 by omega)
    cases hc : zs.contains 58 with
    | false => rfl
    | true =>
      exfalso
      obtain ⟨k, hk⟩ := List.mem_iff_getElem?.1 (List.contains_iff_mem.1 hc)
      exact hn k ((key k).2 hk)
  · intro h
    have hge := Lib.indexByte_ge (Lib.bytesOf zs) 58
    by_cases hp : 0 ≤ Lib.indexByte (Lib.bytesOf zs) 58
    · exfalso
      obtain ⟨k, hk⟩ := Int.eq_ofNat_of_zero_le hp
      have h1 := (key k).1 (Lib.indexByte_some hk).1
      have : zs.contains 58 = true := List.contains_iff_mem.2 (List.mem_of_getElem? h1)
      rw [h] at this; cases this
    · omega

set_option maxRecDepth 100000 in
set_option maxHeartbeats 400000 in
theorem sexa_none (bb n c : Nat) (zs : List Int) (w : World) (HL : Hid (zs.length = n)) (hr : Row bb n zs w) (hcol : colI zs < 0) :
    Calls Trym.prog 26 #[.slice (some ⟨bb, 0, none⟩) n c] w fun e w' => e = .returned (.bool false) ∧ w' = w := by
  go_enter Trym.func26, Trym.ntmps26
  go_wp2_with fail
  refine (colI_any bb n c zs _ HL hr).mono ?_
  rintro e w1 ⟨rfl, rfl⟩
  clear hr
  go_wp2
  go_ret
  exact ⟨rfl, rfl⟩

set_option maxRecDepth 100000 in
set_option maxHeartbeats 400000 in
theorem sexa_nil (w : World) : Calls Trym.prog 26 #[.slice none 0 0] w fun e w' => e = .returned (.bool false) ∧ w' = w := by
  go_enter Trym.func26, Trym.ntmps26
  go_wp2_with fail
  refine (Trym.bytes_IndexByte_nil 58 _).mono ?_
  rintro e w1 ⟨rfl, rfl⟩
  go_wp2
  go_ret
  exact ⟨rfl, rfl⟩

theorem sexa_all (bb n c : Nat) (zs : List Int) (hz : ∀ c ∈ zs, 0 ≤ c ∧ c ≤ 255) (w : World) (HL : Hid (zs.length = n)) (hn : n ≤ 1048579) (hr : Row bb n zs w) :
    Calls Trym.prog 26 #[.slice (some ⟨bb, 0, none⟩) n c] w fun e w' => e = .returned (.bool (sexa zs)) ∧ w = w' := by
  cases h58 : zs.contains 58 with
  | true => exact (sexa_any bb n c zs w HL hn hr h58 (by intro h; rw [(colI_neg zs hz).1 h] at h58; cases h58)).mono fun _ _ h => ⟨h.1, h.2.symm⟩
  | false =>
    have e : sexa zs = false := by unfold sexa; rw [h58]; rfl
    rw [e]
    exact (sexa_none bb n c zs w HL hr ((colI_neg zs hz).2 h58)).mono fun _ _ h => ⟨h.1, h.2.symm⟩

theorem shim_all (bb n c : Nat) (zs : List Int) (hz : Hid (∀ c ∈ zs, 0 ≤ c ∧ c ≤ 255)) (w : World) (HL : Hid (zs.length = n)) (hn : n ≤ 1048579) (hr : Row bb n zs w) :
    Calls Trym.prog 18 #[.slice (some ⟨bb, 0, none⟩) n c] w fun e w' => e = .returned (.bool (sexa zs)) ∧ w = w' := by
  go_enter Trym.func18, Trym.ntmps18
  go_wp2_with fail
  refine (sexa_all bb n c zs hz.out _ HL hn hr).mono ?_
  rintro e w1 ⟨rfl, rfl⟩
  go_wp2
  go_ret
  exact ⟨rfl, rfl⟩
theorem shim_nil (w : World) : Calls Trym.prog 18 #[.slice none 0 0] w fun e w' => e = .returned (.bool false) ∧ w = w' := by
  go_enter Trym.func18, Trym.ntmps18
  go_wp2_with fail
  refine (sexa_nil _).mono ?_
  rintro e w1 ⟨rfl, rfl⟩
  go_wp2
  go_ret
  exact ⟨rfl, rfl⟩

/-- a new row of N cells at block g, filled up to k with ys -/
structure Part (g N : Nat) (ys : List Int) (k : Nat) (w wr : World) : Prop where
  done : ∀ i, i < k → wr.cell? ⟨g, i, none⟩ = some (.int .u8 (ys.getD i 0))
  there : ∀ i, i < N → (wr.cell? ⟨g, i, none⟩).isSome = true
  free : ∀ i, i < N → wr.frozen? ⟨g, i, none⟩ = false
  bel : Below g w wr
  lt : g < wr.heap.size

theorem Part.made (w : World) (N : Nat) (ys : List Int) : Part w.heap.size N ys 0 w (w.alloc (.cells (madeCells #[.int .u8 0] N) 5)) := by
  have hg : ∀ i, i < N → (w.alloc (.cells (madeCells #[.int .u8 0] N) 5)).cell? ⟨w.heap.size, i, none⟩ = (madeCells #[.int .u8 0] N)[i]? := fun i _ => World.cell?_alloc_new _ _ _ _
  refine ⟨fun i hi => absurd hi (by omega), fun i hi => ?_, fun i _ => World.frozen?_alloc_new _ _ _ _, (Below.refl _ _).alloc (Nat.le_refl _) _, by simp⟩
  rw [hg i hi]
  have hs : (madeCells #[.int .u8 0] N).size = N := size_madeCells _ _
  rw [Array.getElem?_eq_getElem (by omega)]
  rfl

theorem Part.put {g N : Nat} {ys : List Int} {k : Nat} {w wr : World} (h : Part g N ys k w wr) (hk : k < N) {v : Int} (hv : v = ys.getD k 0) : Part g N ys (k + 1) w (wr.setCell ⟨g, k, none⟩ (.int .u8 v)) := by
  subst hv
  obtain ⟨u, hu⟩ := Option.isSome_iff_exists.1 (h.there k hk)
  refine ⟨fun i hi => ?_, fun i hi => ?_, fun i hi => (World.frozen?_setCell _ _ _ _).trans (h.free i hi), h.bel.setCell (Nat.le_refl _) _, by simpa [World.setCell] using h.lt⟩
  · by_cases e : i = k
    · subst e; exact World.cell?_setCell_same _ _ _ hu
    · exact (World.cell?_setCell_other _ _ _ _ (fun e' => e (congrArg Addr.off e').symm)).trans (h.done i (by omega))
  · by_cases e : i = k
    · subst e; rw [World.cell?_setCell_same _ _ _ hu]; rfl
    · rw [World.cell?_setCell_other _ _ _ _ (fun e' => e (congrArg Addr.off e').symm)]; exact h.there i hi

theorem clone_nil (w : World) : Calls Trym.prog 17 #[.slice none 0 0] w fun e w' => e = .returned (.slice none 0 0) ∧ w = w' := by
  have q28 : ∀ (w : World) (a : Option Addr) (n c n' c' : Nat), (binOp .eql 28 (.slice a n c) (.slice none n' c')).run Trym.prog w = .ok (.bool a.isNone) w := fun w a n c n' c' => Lib.run_eql_slice_nil w _ _ a n c n' c' Trym.underlying28
  go_enter Trym.func17, Trym.ntmps17
  go_wp2
  go_ret
  exact ⟨rfl, rfl⟩

set_option maxHeartbeats 400000 in
theorem clone_any (x : Addr) (n c : Nat) (zs : List Int) (w : World) (hn : n ≤ 1048576) (hx : Hid (0 < n → ∃ b off, x = ⟨b, off, none⟩)) (hcell : ∀ i, i < n → w.cell? (x.add i) = some (.int .u8 (zs.getD i 0))) :
    Calls Trym.prog 17 #[.slice (some x) n c] w fun e w' => e = .returned (.slice (some ⟨w.heap.size, 0, none⟩) n n) ∧ Row w.heap.size n zs w' ∧ Below w.heap.size w w' ∧ w.heap.size < w'.heap.size := by
  have q28 : ∀ (w : World) (a : Option Addr) (n c n' c' : Nat), (binOp .eql 28 (.slice a n c) (.slice none n' c')).run Trym.prog w = .ok (.bool a.isNone) w := fun w a n c n' c' => Lib.run_eql_slice_nil w _ _ a n c n' c' Trym.underlying28
  have hmk := fun w => run_make_row' (P := Trym.prog) 28 5 (.int .u8 0) 1 Trym.underlying28 info5 rfl .i64 .i64 n (by omega) (by omega) w
  have Hcell : Hid _ := hcell
  clear hcell
  go_enter Trym.func17, Trym.ntmps17
  go_wp2
  go_loopw [4] (fun i wr => ∃ k : Nat, i = .int .i64 k ∧ k ≤ n ∧ Part w.heap.size n zs k w wr) (fun i _ => n - (intOf i).toNat)
  case atStart => exact ⟨0, rfl, Nat.zero_le _, Part.made w n zs⟩
  case round =>
    clear q28 hmk
    obtain ⟨k, rfl, hk, HP⟩ := hrel
    by_cases hlt : k < n
    · have hlt' : (k : Int) < (n : Int) := by omega
      have hsx := Hcell.out k hlt
      have hc : wr.cell? (x.add k) = some (.int .u8 (zs.getD k 0)) := (HP.bel.cell (World.block_lt_of_cell? _ _ hsx)).trans hsx
      obtain ⟨b, off, rfl⟩ := hx.out (by omega)
      have hc' : wr.cell? ⟨b, off + k, none⟩ = some (.int .u8 (zs.getD k 0)) := by rw [← add_plain]; exact hc
      clear hc hsx
      obtain ⟨u, hu⟩ := Option.isSome_iff_exists.1 (HP.there k hlt)
      have hf := HP.free k hlt
      go_wp2
      go_roundw
      case rel => exact ⟨k + 1, by go_num, by omega, HP.put hlt (by simp)⟩
      case measure => simp [intOf]; omega
    · have hlt' : ¬ (k : Int) < (n : Int) := by omega
      go_wp2
      go_ret
      exact ⟨rfl, fun i hi => HP.done i (by omega), HP.bel, HP.lt⟩

theorem getD_left (zs t : List Int) (k : Nat) (h : k < zs.length) : (zs ++ t).getD k 0 = zs.getD k 0 := by
  simp [List.getElem?_append_left h]
theorem getD_right (zs t : List Int) (n j : Nat) (h : zs.length = n) : (zs ++ t).getD (n + j) 0 = t.getD j 0 := by
  subst h; simp [List.getElem?_append_right]

set_option maxHeartbeats 800000 in
theorem tail_two (bb n c : Nat) (zs : List Int) (a : Int) (w : World) (hn : n ≤ 1048576) (HL : Hid (zs.length = n)) (hB : bb < w.heap.size) (hr : Row bb n zs w) :
    Calls Trym.prog 24 #[.slice (some ⟨bb, 0, none⟩) n c, .int .u8 58, .int .u8 a, .int .u8 0, .int .i64 2] w fun e w' => e = .returned (.slice (some ⟨w.heap.size, 0, none⟩) (n + 2) (n + 2)) ∧ Row w.heap.size (n + 2) (zs ++ [58, a]) w' ∧ Below w.heap.size w w' ∧ w.heap.size < w'.heap.size := by
  have hmk := fun w => run_make_row' (P := Trym.prog) 28 5 (.int .u8 0) 1 Trym.underlying28 info5 rfl .i64 .i64 (n + 2) (by omega) (by omega) w
  have ec : ((n + 2 : Nat) : Int) = (n : Int) + 2 := by omega
  rw [ec] at hmk
  clear ec
  have Hr : Hid _ := hr
  clear hr
  go_enter Trym.func24, Trym.ntmps24
  go_wp2
  go_loopw [12] (fun i wr => ∃ k : Nat, i = .int .i64 k ∧ k ≤ n ∧ Part w.heap.size (n + 2) (zs ++ [58, a]) k w wr) (fun i _ => n - (intOf i).toNat)
  case atStart => exact ⟨0, rfl, Nat.zero_le _, Part.made w (n + 2) _⟩
  case round =>
    clear hmk
    obtain ⟨k, rfl, hk, HP⟩ := hrel
    by_cases hlt : k < n
    · have hlt' : (k : Int) < (n : Int) := by omega
      have hsx := Hr.out k hlt
      have hc : wr.cell? ⟨bb, k, none⟩ = some (.int .u8 (zs.getD k 0)) := (HP.bel.cell hB).trans hsx
      clear hsx
      have HV : Hid (zs.getD k 0 = (zs ++ [58, a]).getD k 0) := by show _ = _; exact (getD_left zs _ k (by rw [HL.out]; exact hlt)).symm
      obtain ⟨u, hu⟩ := Option.isSome_iff_exists.1 (HP.there k (by omega))
      have hf := HP.free k (by omega)
      go_wp2
      go_roundw
      case rel => exact ⟨k + 1, by go_num, by omega, HP.put (by omega) (by rw [← HV.out]; simp)⟩
      case measure => simp [intOf]; omega
    · have hlt' : ¬ (k : Int) < (n : Int) := by omega
      obtain rfl : k = n := by omega
      obtain ⟨u0, hu0⟩ := Option.isSome_iff_exists.1 (HP.there k (by omega))
      have hf0 := HP.free k (by omega)
      obtain ⟨u1, hu1⟩ := Option.isSome_iff_exists.1 (HP.there (k + 1) (by omega))
      have hf1 := HP.free (k + 1) (by omega)
      have HV0 : Hid ((58 : Int) = (zs ++ [58, a]).getD k 0) := by show _ = _; exact (getD_right zs [58, a] k 0 HL.out).symm
      have HV1 : Hid (a = (zs ++ [58, a]).getD (k + 1) 0) := by show _ = _; exact (getD_right zs [58, a] k 1 HL.out).symm
      go_wp2
      go_ret
      have H2 := (HP.put (by omega) HV0.out).put (by omega) HV1.out
      exact ⟨rfl, fun i hi => H2.done i (by omega), H2.bel, H2.lt⟩
set_option maxHeartbeats 800000 in
theorem tail_three (bb n c : Nat) (zs : List Int) (a b : Int) (w : World) (hn : n ≤ 1048576) (HL : Hid (zs.length = n)) (hB : bb < w.heap.size) (hr : Row bb n zs w) :
    Calls Trym.prog 24 #[.slice (some ⟨bb, 0, none⟩) n c, .int .u8 58, .int .u8 a, .int .u8 b, .int .i64 3] w fun e w' => e = .returned (.slice (some ⟨w.heap.size, 0, none⟩) (n + 3) (n + 3)) ∧ Row w.heap.size (n + 3) (zs ++ [58, a, b]) w' ∧ Below w.heap.size w w' ∧ w.heap.size < w'.heap.size := by
  have hmk := fun w => run_make_row' (P := Trym.prog) 28 5 (.int .u8 0) 1 Trym.underlying28 info5 rfl .i64 .i64 (n + 3) (by omega) (by omega) w
  have ec : ((n + 3 : Nat) : Int) = (n : Int) + 3 := by omega
  rw [ec] at hmk
  clear ec
  have Hr : Hid _ := hr
  clear hr
  go_enter Trym.func24, Trym.ntmps24
  go_wp2
  go_loopw [12] (fun i wr => ∃ k : Nat, i = .int .i64 k ∧ k ≤ n ∧ Part w.heap.size (n + 3) (zs ++ [58, a, b]) k w wr) (fun i _ => n - (intOf i).toNat)
  case atStart => exact ⟨0, rfl, Nat.zero_le _, Part.made w (n + 3) _⟩
  case round =>
    clear hmk
    obtain ⟨k, rfl, hk, HP⟩ := hrel
    by_cases hlt : k < n
    · have hlt' : (k : Int) < (n : Int) := by omega
      have hsx := Hr.out k hlt
      have hc : wr.cell? ⟨bb, k, none⟩ = some (.int .u8 (zs.getD k 0)) := (HP.bel.cell hB).trans hsx
      clear hsx
      have HV : Hid (zs.getD k 0 = (zs ++ [58, a, b]).getD k 0) := by show _ = _; exact (getD_left zs _ k (by rw [HL.out]; exact hlt)).symm
      obtain ⟨u, hu⟩ := Option.isSome_iff_exists.1 (HP.there k (by omega))
      have hf := HP.free k (by omega)
      go_wp2
      go_roundw
      case rel => exact ⟨k + 1, by go_num, by omega, HP.put (by omega) (by rw [← HV.out]; simp)⟩
      case measure => simp [intOf]; omega
    · have hlt' : ¬ (k : Int) < (n : Int) := by omega
      obtain rfl : k = n := by omega
      obtain ⟨u0, hu0⟩ := Option.isSome_iff_exists.1 (HP.there k (by omega))
      have hf0 := HP.free k (by omega)
      obtain ⟨u1, hu1⟩ := Option.isSome_iff_exists.1 (HP.there (k + 1) (by omega))
      have hf1 := HP.free (k + 1) (by omega)
      have HV0 : Hid ((58 : Int) = (zs ++ [58, a, b]).getD k 0) := by show _ = _; exact (getD_right zs [58, a, b] k 0 HL.out).symm
      obtain ⟨u2, hu2⟩ := Option.isSome_iff_exists.1 (HP.there (k + 2) (by omega))
      have hf2 := HP.free (k + 2) (by omega)
      have HV2 : Hid (b = (zs ++ [58, a, b]).getD (k + 2) 0) := by show _ = _; exact (getD_right zs [58, a, b] k 2 HL.out).symm
      have HV1 : Hid (a = (zs ++ [58, a, b]).getD (k + 1) 0) := by show _ = _; exact (getD_right zs [58, a, b] k 1 HL.out).symm
      go_wp2
      go_ret
      have H2 := ((HP.put (by omega) HV0.out).put (by omega) HV1.out).put (by omega) HV2.out
      exact ⟨rfl, fun i hi => H2.done i (by omega), H2.bel, H2.lt⟩
end Go.Proofs.Qxb6001729aMods.Sexa
