/-
  The clone, ZZSeek. By a prover of this seat.
-/
import Derived.Test.Qxb6601160aModsWalkA
import Derived.Deep.OwnRows
namespace Go.Proofs.Qxb6601160aMods.Seek
open Go.ChangeShapes Go.WideShapes Go.ChangeAt Go.RowKit

theorem info5 : (Trym.prog.info? 5).map (fun i => (i.zero, i.size, i.bytes)) = some (some (.int .u8 0), 1, 1) := by kernel_rfl

/-- a new row of N cells at block g, filled up to k with ys -/
structure Part (g N : Nat) (ys : List Int) (k : Nat) (w wr : World) : Prop where
  done : ∀ i, i < k → wr.cell? ⟨g, i, none⟩ = some (.int .u8 (ys.getD i 0))
  there : ∀ i, i < N → (wr.cell? ⟨g, i, none⟩).isSome = true
  free : ∀ i, i < N → wr.frozen? ⟨g, i, none⟩ = false
  bel : Below g w wr
  lt : g < wr.heap.size

theorem Part.made (w : World) (N : Nat) (ys : List Int) : Part w.heap.size N ys 0 w (w.alloc (.cells (madeCells #[.int .u8 0] N) 5)) := by
  have hg : ∀ i, i < N → (w.alloc (.cells (madeCells #[.int .u8 0] N) 5)).cell? ⟨w.heap.size, i, none⟩ = (madeCells #[.int .u8 0] N)[i]? := fun i _ => World.cell?_alloc_new _ _ _ _
  refine ⟨fun i hi => absurd hi (by omega), fun i hi => ?_, fun i _ => World.frozen?_alloc_new _ _ _ _, (Below.refl _ _).alloc (Nat.le_refl _) _, by simp⟩
  rw [hg i hi]
  have hs : (madeCells #[.int .u8 0] N).size = N := size_madeCells _ _
  rw [Array.getElem?_eq_getElem (by omega)]
  rfl

theorem Part.put {g N : Nat} {ys : List Int} {k : Nat} {w wr : World} (h : Part g N ys k w wr) (hk : k < N) {v : Int} (hv : v = ys.getD k 0) : Part g N ys (k + 1) w (wr.setCell ⟨g, k, none⟩ (.int .u8 v)) := by
  subst hv
  obtain ⟨u, hu⟩ := Option.isSome_iff_exists.1 (h.there k hk)
  refine ⟨fun i hi => ?_, fun i hi => ?_, fun i hi => (World.frozen?_setCell _ _ _ _).trans (h.free i hi), h.bel.setCell (Nat.le_refl _) _, by simpa [World.setCell] using h.lt⟩
  · by_cases e : i = k
    · subst e; exact World.cell?_setCell_same _ _ _ hu
    · exact (World.cell?_setCell_other _ _ _ _ (fun e' => e (congrArg Addr.off e').symm)).trans (h.done i (by omega))
  · by_cases e : i = k
    · subst e; rw [World.cell?_setCell_same _ _ _ hu]; rfl
    · rw [World.cell?_setCell_other _ _ _ _ (fun e' => e (congrArg Addr.off e').symm)]; exact h.there i hi

theorem clone_nil (w : World) : Calls Trym.prog 8 #[.slice none 0 0] w fun e w' => e = .returned (.slice none 0 0) ∧ w = w' := by
  have q22 : ∀ (w : World) (a : Option Addr) (n c n' c' : Nat), (binOp .eql 22 (.slice a n c) (.slice none n' c')).run Trym.prog w = .ok (.bool a.isNone) w := fun w a n c n' c' => Lib.run_eql_slice_nil w _ _ a n c n' c' Trym.underlying22
  go_enter Trym.func8, Trym.ntmps8
  go_wp2
  go_ret
  exact ⟨rfl, rfl⟩

set_option maxHeartbeats 400000 in
theorem clone_any (x : Addr) (n c : Nat) (zs : List Int) (w : World) (hn : n ≤ 1048576) (hx : Hid (0 < n → ∃ b off, x = ⟨b, off, none⟩)) (hcell : ∀ i, i < n → w.cell? (x.add i) = some (.int .u8 (zs.getD i 0))) :
    Calls Trym.prog 8 #[.slice (some x) n c] w fun e w' => e = .returned (.slice (some ⟨w.heap.size, 0, none⟩) n n) ∧ Row w.heap.size n zs w' ∧ Below w.heap.size w w' ∧ w.heap.size < w'.heap.size := by
  have q22 : ∀ (w : World) (a : Option Addr) (n c n' c' : Nat), (binOp .eql 22 (.slice a n c) (.slice none n' c')).run Trym.prog w = .ok (.bool a.isNone) w := fun w a n c n' c' => Lib.run_eql_slice_nil w _ _ a n c n' c' Trym.underlying22
  have hmk := fun w => run_make_row' (P := Trym.prog) 22 5 (.int .u8 0) 1 Trym.underlying22 info5 rfl .i64 .i64 n (by omega) (by omega) w
  have Hcell : Hid _ := hcell
  clear hcell
  go_enter Trym.func8, Trym.ntmps8
  go_wp2
  go_loopw [4] (fun i wr => ∃ k : Nat, i = .int .i64 k ∧ k ≤ n ∧ Part w.heap.size n zs k w wr) (fun i _ => n - (intOf i).toNat)
  case atStart => exact ⟨0, rfl, Nat.zero_le _, Part.made w n zs⟩
  case round =>
    clear q22 hmk
    obtain ⟨k, rfl, hk, HP⟩ := hrel
    by_cases hlt : k < n
    · have hlt' : (k : Int) < (n : Int) := by omega
      have hsx := Hcell.out k hlt
      have hc : wr.cell? (x.add k) = some (.int .u8 (zs.getD k 0)) := (HP.bel.cell (World.block_lt_of_cell? _ _ hsx)).trans hsx
      obtain ⟨b, off, rfl⟩ := hx.out (by omega)
      have hc' : wr.cell? ⟨b, off + k, none⟩ = some (.int .u8 (zs.getD k 0)) := by rw [← add_plain]; exact hc
      clear hc hsx
      obtain ⟨u, hu⟩ := Option.isSome_iff_exists.1 (HP.there k hlt)
      have hf := HP.free k hlt
      go_wp2
      go_roundw
      case rel => exact ⟨k + 1, by go_num, by omega, HP.put hlt (by simp)⟩
      case measure => simp [intOf]; omega
    · have hlt' : ¬ (k : Int) < (n : Int) := by omega
      go_wp2
      go_ret
      exact ⟨rfl, fun i hi => HP.done i (by omega), HP.bel, HP.lt⟩


def ZPost (n : Nat) (zs : List Int) (f0 : Nat) (s0 e0 i0 a0 : Int) (eof0 : Bool) (w : World) (r : Ending) (w' : World) : Prop :=
  ∃ s e i a eof, r = .returned (.tuple #[.int .i64 s, .int .i64 e, .int .i64 i, .int .i64 a, .bool eof]) ∧ Below w.heap.size w w' ∧ Out zs n f0 s0 e0 i0 a0 eof0 s e i a eof

set_option maxRecDepth 100000 in
set_option maxHeartbeats 800000 in
theorem zzseek_any (bb n : Nat) (x : Option Addr) (hx : Hid (0 < n → x = some ⟨bb, 0, none⟩)) (zs : List Int) (HL : Hid (zs.length = n)) (hz : Hid (∀ c ∈ zs, 0 ≤ c ∧ c ≤ 255)) (f0 : Nat) (hn : n ≤ 1048576) (s0 e0 i0 a0 : Int) (eof0 : Bool) (w : World)
    (hB : 0 < n → bb < w.heap.size) (hr : Row bb n zs w) :
    Calls Trym.prog 9 #[.slice x n n, .int .i64 s0, .int .i64 e0, .int .i64 i0, .int .i64 a0, .bool eof0, .int .i64 f0] w fun r w' => ZPost n zs f0 s0 e0 i0 a0 eof0 w r w' := by
  have Hr : Hid _ := hr
  clear hr
  have HBR : Hid (BR w.heap.size n x (w.alloc (.cells #[.slice x n n, .int .i64 s0, .int .i64 e0, .int .i64 i0, .int .i64 a0, .bool eof0, .slice none 0 0, .slice none 0 0, .slice none 0 0, .int .i64 0] 38)) s0 e0 i0 a0 eof0) :=
    ⟨by simp, by simp, by simp, by simp, by simp, by simp, fun j => World.frozen?_alloc_new _ _ _ _⟩
  have HBE : Hid (Below w.heap.size w (w.alloc (.cells #[.slice x n n, .int .i64 s0, .int .i64 e0, .int .i64 i0, .int .i64 a0, .bool eof0, .slice none 0 0, .slice none 0 0, .slice none 0 0, .int .i64 0] 38))) := (Below.refl _ _).alloc (Nat.le_refl _) _
  have HRow : Hid _ := Row.below Hr.out hB HBE.out
  clear Hr
  go_enter Trym.func9, Trym.ntmps9
  go_wp2_with fail
  refine (seek_any w.heap.size bb n x hx zs HL hz f0 hn s0 e0 i0 a0 eof0 _ HBR.out HRow.out).mono ?_
  rintro r w1 ⟨rfl, s, e, i, a, eof, hbr, hb, ho⟩
  obtain ⟨c0, c1, c2, c3, c4, c5, fz⟩ := hbr
  have HO : Hid _ := ho
  have HB : Hid _ := HBE.out.trans hb
  clear ho hb fz HBR HBE HRow
  go_wp2_with fail
  go_quiet (fail)
  go_wp2_with fail
  refine bodyPost_ret (v := .tuple #[.int .i64 s, .int .i64 e, .int .i64 i, .int .i64 a, .bool eof]) (by simp [results, Trym.results9, go_sem]) rfl ?_
  exact ⟨s, e, i, a, eof, rfl, below_drewN HB.out _, HO.out⟩
end Go.Proofs.Qxb6601160aMods.Seek
