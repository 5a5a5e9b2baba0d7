/-
  The clone, the shim, and the law's own walk. By a prover of this seat.
-/
import Derived.Test.Qxb6000801aModsWalkB
import Derived.Laws.CopyOwn
import Derived.Deep.OwnRows
namespace Go.Proofs.Qxb6000801aMods.SkipW
open Go.ChangeShapes Go.WideShapes Go.ChangeAt Go.RowKit

theorem info5 : (Trym.prog.info? 5).map (fun i => (i.zero, i.size, i.bytes)) = some (some (.int .u8 0), 1, 1) := by kernel_rfl
theorem size5 : (Trym.prog.info? 5).map (·.size) = some 1 := by kernel_rfl

theorem clone_nil (w : World) : Calls Trym.prog 9 #[.slice none 0 0] w fun e w' => e = .returned (.slice none 0 0) ∧ w' = w := by
  have q22 : ∀ (w : World) (a : Option Addr) (n c n' c' : Nat), (binOp .eql 22 (.slice a n c) (.slice none n' c')).run Trym.prog w = .ok (.bool a.isNone) w := fun w a n c n' c' => Lib.run_eql_slice_nil w _ _ a n c n' c' Trym.underlying22
  go_enter Trym.func9, Trym.ntmps9
  go_wp2
  go_ret
  exact ⟨rfl, rfl⟩

/-- what the built-in copy does to the new row -/
theorem copy_run (x : Addr) (n c : Nat) (zs : List Int) (w : World) (hz : n ≤ zs.length) (hcell : ∀ i, i < n → w.cell? (x.add i) = some (.int .u8 (zs.getD i 0))) :
    ∃ w2, (Builtin.copy_ #[22, 22] 3 #[.slice (some ⟨w.heap.size, 0, none⟩) n n, .slice (some x) n c]).run Trym.prog (w.alloc (.cells (madeCells #[.int .u8 0] n) 5)) = .ok (goInt n) w2 ∧ Row w.heap.size n zs w2 ∧ Below w.heap.size w w2 ∧ w.heap.size < w2.heap.size := by
  have hbz : Below w.heap.size w (w.alloc (.cells (madeCells #[.int .u8 0] n) 5)) := (Below.refl _ _).alloc (Nat.le_refl _) _
  have hs1 : (w.alloc (.cells (madeCells #[.int .u8 0] n) 5)).heap[w.heap.size]? = some (.cells (madeCells #[.int .u8 0] n) 5 (0, 0)) := heap_alloc_new _ _
  have hsz : (madeCells #[.int .u8 0] n).size = n := size_madeCells _ _
  have hcl : ((zs.take n).map (Value.int .u8)).length = n := by simp; omega
  have hget : ∀ j v, ((zs.take n).map (Value.int .u8))[j]? = some v → j < n ∧ v = .int .u8 (zs.getD j 0) := by
    intro j v hj
    obtain ⟨hj1, hj2⟩ := List.getElem?_eq_some_iff.1 hj
    rw [hcl] at hj1
    refine ⟨hj1, ?_⟩
    rw [← hj2]
    simp [List.getElem?_eq_getElem (show j < zs.length by omega)]
  have hr := run_copy_row (P := Trym.prog) (w.alloc (.cells (madeCells #[.int .u8 0] n) 5)) 22 22 3 5 w.heap.size 0 n n x n c (madeCells #[.int .u8 0] n) 5 ((zs.take n).map (Value.int .u8)) Trym.underlying22 size5 hs1
    (by rw [hcl]; simp) (fun j v hj => by
      obtain ⟨h1, h2⟩ := hget j v hj
      rw [h2]
      exact (hbz.cell (World.block_lt_of_cell? _ _ (hcell j h1))).trans (hcell j h1)) (by rw [hcl, hsz]; omega)
    (by intro v hv; obtain ⟨j, hj⟩ := List.mem_iff_getElem?.1 hv; rw [(hget j v hj).2]; rfl)
  rw [hcl] at hr
  refine ⟨_, hr, fun i hi => ?_, below_setRow hbz (Nat.le_refl _) _, ?_⟩
  · have hh := setRow_heap (w.alloc (.cells (madeCells #[.int .u8 0] n) 5)) w.heap.size _ (((madeCells #[.int .u8 0] n).toList.take 0 ++ (zs.take n).map (Value.int .u8) ++ (madeCells #[.int .u8 0] n).toList.drop (0 + n)).toArray) 5 (0, 0) hs1
    unfold World.cell?
    rw [hh]
    simp [List.getElem?_append_left, hi, List.getElem?_eq_getElem (show i < zs.length by omega), hz]
  · simp [World.setRow]

set_option maxHeartbeats 400000 in
theorem clone_any (x : Addr) (n c : Nat) (zs : List Int) (w : World) (hn : n ≤ 65536) (hz : n ≤ zs.length) (hcell : ∀ i, i < n → w.cell? (x.add i) = some (.int .u8 (zs.getD i 0))) :
    Calls Trym.prog 9 #[.slice (some x) n c] w fun e w' => e = .returned (.slice (some ⟨w.heap.size, 0, none⟩) n n) ∧ Row w.heap.size n zs w' ∧ Below w.heap.size w w' ∧ w.heap.size < w'.heap.size := by
  have q22 : ∀ (w : World) (a : Option Addr) (n c n' c' : Nat), (binOp .eql 22 (.slice a n c) (.slice none n' c')).run Trym.prog w = .ok (.bool a.isNone) w := fun w a n c n' c' => Lib.run_eql_slice_nil w _ _ a n c n' c' Trym.underlying22
  have hmk := fun w => run_make_row' (P := Trym.prog) 22 5 (.int .u8 0) 1 Trym.underlying22 info5 rfl .i64 .i64 n (by omega) (by omega) w
  obtain ⟨w2, hcp, hrow, hb2, hs2⟩ := copy_run x n c zs w hz hcell
  have Hrow : Hid _ := hrow
  clear hcell hrow
  go_enter Trym.func9, Trym.ntmps9
  go_wp2
  go_ret
  exact ⟨rfl, Hrow, hb2, hs2⟩

/-- ZZSkip: where the walk stands behind skip -/
def ShimRel (n : Nat) (zs : List Int) (p r : Nat) : Prop := p ≤ r ∧ r ≤ n + 1 ∧ (r = p ↔ (p = n ∨ isDel (zs[p]?.getD 0) = true))

set_option maxHeartbeats 400000 in
theorem shim_any (n c bb : Nat) (x : Option Addr) (hx : 0 < n → x = some ⟨bb, 0, none⟩) (zs : List Int) (hz : Hid (∀ i : Nat, 0 ≤ zs[i]?.getD 0 ∧ zs[i]?.getD 0 ≤ 255)) (p : Nat) (w : World) (hB : 0 < n → bb < w.heap.size) (hn : n ≤ 65536) (hp : p ≤ n)
    (hr : Row bb n zs w) :
    Calls Trym.prog 10 #[.slice x n c, .int .i64 p] w fun e w' => ∃ r : Nat, e = .returned (.int .i64 r) ∧ ShimRel n zs p r ∧ Below w.heap.size w w' := by
  have hbx : Box w.heap.size n c x (w.alloc (.cells #[.slice x n c, .int .i64 p] 33)) p := ⟨by simp, by simp, by simp⟩
  have hbe : Below w.heap.size w (w.alloc (.cells #[.slice x n c, .int .i64 p] 33)) := (Below.refl _ _).alloc (Nat.le_refl _) _
  go_enter Trym.func10, Trym.ntmps10
  go_wp2_with fail
  refine (skip_any w.heap.size n c bb x hx zs hz p _ hB hn hp hbx (hr.below hB hbe)).mono ?_
  rintro e w1 ⟨rfl, r, s1, s2, s3, ⟨c0, c1, fz⟩, s4⟩
  have S3 : Hid _ := s3
  clear s3 hbx
  go_wp2
  go_ret
  exact ⟨r, rfl, ⟨s1, s2, S3⟩, hbe.trans s4⟩

theorem bytes_yes (x : Option Addr) (n c : Nat) (a : Int) (w : World) (hn : n ≤ 65536) : Calls Trym.prog 8 #[.slice x n c, .int .i64 a] w fun e w' => e = .returned (.bool true) ∧ w' = w := by
  go_enter Trym.func8, Trym.ntmps8
  go_wp2
  go_ret
  exact ⟨rfl, rfl⟩

theorem bytes_no (x : Option Addr) (n c : Nat) (a : Int) (w : World) (hn : 1048576 < n) : Calls Trym.prog 8 #[.slice x n c, .int .i64 a] w fun e w' => e = .returned (.bool false) ∧ w' = w := by
  go_enter Trym.func8, Trym.ntmps8
  go_wp2
  go_ret
  exact ⟨rfl, rfl⟩

set_option maxHeartbeats 400000 in
theorem law_long (x : Option Addr) (n c : Nat) (a : Int) (w : World) (hn : 65536 < n) (hm : n ≤ maxLen) : Calls Trym.prog 3 #[.slice x n c, .int .i64 a] w fun e w' => e = .returned (.bool true) ∧ Below w.heap.size w w' := by
  unfold maxLen at hm
  by_cases h : 1048576 < n
  · go_enter Trym.func3, Trym.ntmps3
    go_wp2
    go_ret
    exact ⟨rfl, Below.refl _ _⟩
  · go_enter Trym.func3, Trym.ntmps3
    go_wp2
    go_ret
    exact ⟨rfl, Below.refl _ _⟩

set_option maxHeartbeats 400000 in
theorem law_out (x : Option Addr) (n c : Nat) (a : Int) (w : World) (hn : n ≤ 65536) (ha : a < 0 ∨ (n : Int) < a) : Calls Trym.prog 3 #[.slice x n c, .int .i64 a] w fun e w' => e = .returned (.bool true) ∧ Below w.heap.size w w' := by
  rcases ha with h | h
  · go_enter Trym.func3, Trym.ntmps3
    go_wp2
    go_ret
    exact ⟨rfl, Below.refl _ _⟩
  · have h0 : ¬ a < 0 := by omega
    go_enter Trym.func3, Trym.ntmps3
    go_wp2
    go_ret
    exact ⟨rfl, Below.refl _ _⟩

theorem del_cases {z : Int} (h : isDel z = true) : (z == 44) = true ∨ ((z == 44) = false ∧ (z == 58) = true) ∨ ((z == 44) = false ∧ (z == 58) = false ∧ (z == 93) = true) ∨ ((z == 44) = false ∧ (z == 58) = false ∧ (z == 93) = false ∧ (z == 125) = true) := by
  simp [isDel] at h ⊢; omega
theorem del_none {z : Int} (h : isDel z = false) : (z == 44) = false ∧ (z == 58) = false ∧ (z == 93) = false ∧ (z == 125) = false := by
  simp [isDel] at h ⊢; exact ⟨h.1.1.1, h.1.1.2, h.1.2, h.2⟩

set_option maxHeartbeats 800000 in
theorem law_some (x : Addr) (n c : Nat) (zs : List Int) (hz : Hid (∀ i : Nat, 0 ≤ zs[i]?.getD 0 ∧ zs[i]?.getD 0 ≤ 255)) (p : Nat) (w : World) (hn : n ≤ 65536) (hp : p ≤ n) (hl : n ≤ zs.length)
    (hcell : ∀ i, i < n → w.cell? (x.add i) = some (.int .u8 (zs.getD i 0))) :
    Calls Trym.prog 3 #[.slice (some x) n c, .int .i64 p] w fun e w' => e = .returned (.bool true) ∧ Below w.heap.size w w' := by
  have hp' : ¬ ((p : Int) < 0) := by omega
  have hp2 : ¬ ((n : Int) < (p : Int)) := by omega
  have Hcell : Hid _ := hcell
  clear hcell
  go_enter Trym.func3, Trym.ntmps3
  go_wp2_with fail
  refine (bytes_yes _ n c _ _ hn).mono ?_
  rintro e w0 ⟨rfl, rfl⟩
  go_wp2_with fail
  refine (clone_any x n c zs _ hn hl Hcell.out).mono ?_
  rintro e w1 ⟨rfl, hrow, hb1, hs1⟩
  go_wp2_with fail
  refine (shim_any n n _ _ (fun _ => rfl) zs hz p w1 (fun _ => hs1) hn hp hrow).mono ?_
  rintro e w2 ⟨r, rfl, ⟨s1, s2, s3⟩, hb2⟩
  have S3 : Hid _ := s3
  have hrow2 := hrow.below (fun _ => hs1) hb2
  have HB : Hid _ := hb1.trans (hb2.mono (Nat.le_of_lt hs1))
  clear s3 hb1 hb2 hrow hs1
  have hr1 : ¬ ((r : Int) < (p : Int)) := by omega
  have hr2 : ¬ ((n : Int) + 1 < (r : Int)) := by omega
  by_cases hpn : p = n
  · have hrp : ((r : Int) == (p : Int)) = true := by have := S3.out.2 (.inl hpn); simp; omega
    have hpn' : ((p : Int) == (n : Int)) = true := by simp; omega
    clear hpn hrow2
    go_wp2
    go_ret
    exact ⟨rfl, HB⟩
  · have hpn' : ((p : Int) == (n : Int)) = false := by simp; omega
    have hlt : (p : Int) < (n : Int) := by omega
    have hc := hrow2 p (by omega)
    by_cases hd : isDel (zs[p]?.getD 0) = true
    · have hrp : ((r : Int) == (p : Int)) = true := by have := S3.out.2 (.inr hd); simp; omega
      rcases del_cases hd with h44 | ⟨h44, h58⟩ | ⟨h44, h58, h93⟩ | ⟨h44, h58, h93, h125⟩
      all_goals
        clear hrow2 hpn hd
        go_wp2
        go_ret
        exact ⟨rfl, HB⟩
    · have hrp : ((r : Int) == (p : Int)) = false := by simp; intro h; rcases S3.out.1 (by omega) with h | h; exact hpn h; exact hd h
      obtain ⟨h44, h58, h93, h125⟩ := del_none (by simpa using hd)
      clear hrow2 hpn hd
      go_wp2
      go_ret
      exact ⟨rfl, HB⟩

set_option maxHeartbeats 800000 in
theorem law_nil (w : World) :
    Calls Trym.prog 3 #[.slice none 0 0, .int .i64 0] w fun e w' => e = .returned (.bool true) ∧ Below w.heap.size w w' := by
  go_enter Trym.func3, Trym.ntmps3
  go_wp2_with fail
  refine (bytes_yes _ 0 0 _ _ (by omega)).mono ?_
  rintro e w0 ⟨rfl, rfl⟩
  go_wp2_with fail
  refine (clone_nil _).mono ?_
  rintro e w1 ⟨rfl, rfl⟩
  go_wp2_with fail
  refine (shim_any 0 0 0 none (fun h => absurd h (by omega)) [] (by intro i; simp) 0 w1 (fun h => absurd h (by omega)) (by omega) (by omega) (fun i hi => absurd hi (by omega))).mono ?_
  rintro e w2 ⟨r, rfl, ⟨s1, s2, s3⟩, hb2⟩
  obtain rfl : r = 0 := s3.2 (.inl rfl)
  clear s1 s2 s3
  go_wp2
  go_ret
  exact ⟨rfl, hb2⟩
end Go.Proofs.Qxb6000801aMods.SkipW
