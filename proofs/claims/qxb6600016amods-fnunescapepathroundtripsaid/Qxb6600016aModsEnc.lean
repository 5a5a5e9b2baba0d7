/-
  The walks of zzPercentAll and zzPercentSome. By a prover of this seat.
-/
import Derived.Test.Qxb6600016aModsOwn
namespace Go.Proofs.Qxb6600016aMods.Esc
open Go.ChangeShapes Go.WideShapes Go.ChangeAt Go.RowKit

theorem enc_le (must : Int → Bool) (up : Bool) (s : ByteArray) (k : Nat) : (encP must up ((nums s).take k)).length ≤ 3 * k := by
  have := enc_length must up ((nums s).take k)
  have h2 : ((nums s).take k).length ≤ k := List.length_take_le _ _
  omega
theorem enc_step_esc (must : Int → Bool) (up : Bool) (s : ByteArray) (k : Nat) (hk : k < s.size) (hm : must (s[k].toNat : Int) = true) :
    encP must up ((nums s).take (k + 1)) = encP must up ((nums s).take k) ++ [37] ++ [hexI ((s[k].toNat : Int) / 16) up] ++ [hexI ((s[k].toNat : Int) % 16) up] := by
  rw [nums_snoc s k hk, enc_snoc, if_pos hm]; simp [encB]
theorem enc_step_lit (must : Int → Bool) (up : Bool) (s : ByteArray) (k : Nat) (hk : k < s.size) (hm : must (s[k].toNat : Int) = false) :
    encP must up ((nums s).take (k + 1)) = encP must up ((nums s).take k) ++ [(s[k].toNat : Int)] := by
  rw [nums_snoc s k hk, enc_snoc, hm]; simp
theorem enc_end (must : Int → Bool) (up : Bool) (s : ByteArray) (k : Nat) (h : s.size ≤ k) : encP must up ((nums s).take k) = encP must up (nums s) := by
  rw [List.take_of_length_le (by rw [nums_length]; exact h)]
theorem ret_str {a b : List Int} (h : a = b) : Ending.returned (.string (strOfNums a)) = .returned (.string (strOfNums b)) := by rw [h]

set_option maxHeartbeats 800000 in
theorem all_any (s : ByteArray) (up : Bool) (w : World) (hs : s.size ≤ 262144) :
    Calls Trym.prog 20 #[.string s, .bool up] w fun e w' => e = .returned (.string (strOfNums (encP (fun _ => true) up (nums s)))) ∧ Below w.heap.size w w' := by
  obtain ⟨i0, hi, hz0, hz1, hz2⟩ := info_parts info5
  go_enter Trym.func20, Trym.ntmps20
  go_wp2_with (at_make; refine wpList_make_own _ rfl _ _ 30 rfl w.heap.size 5 i0 (.int .u8 0) 1 Trym.underlying30 hi hz0 hz1 .i64 .i64 _ (3 * s.size) rfl rfl (by omega) (by rw [hz2]; omega) (by unfold maxLen; omega) (Nat.le_refl _) ?_; intro w1 hown hgrow)
  have hb1 : Below w.heap.size w w1 := (Below.refl _ _).grown hgrow (Nat.le_refl _) (fun k h => by cases h)
  clear hi hz0 hz1 hz2 hgrow
  go_loopw [5, 6] (fun v i wr => ∃ k : Nat, k ≤ s.size ∧ i = .int .i64 k ∧ Has w.heap.size wr v (encP (fun _ => true) up ((nums s).take k)) ∧ Below w.heap.size w wr) (fun _ i _ => s.size - (intOf i).toNat)
  case atStart => exact ⟨0, Nat.zero_le _, rfl, hown, hb1⟩
  case round =>
    clear hown hb1
    obtain ⟨k, hk, rfl, hown, hbel⟩ := hrel
    have hL := enc_le (fun _ => true) up s k
    by_cases hlt : k < s.size
    · have HS : Hid _ := enc_step_esc (fun _ => true) up s k hlt rfl
      generalize encP (fun _ => true) up ((nums s).take k) = L at *
      have hc := s[k].toNat_lt
      have hws := hbel.size
      go_wp2_with (at_builtin; refine app_wpList rfl (.tmp 21) (.tmp 22) rfl w.heap.size _ L rfl (hown.alloc _) ⟨wr.heap.size, 0, none⟩ 1 37 rfl (by simp) (by omega) (by simp; omega) ?_; intro v1 w1 hown1 hbel1)
      refine (hexOf_any _ up _ (by omega) (by omega)).mono ?_
      rintro e w2 ⟨rfl, rfl⟩
      have hws2 := hbel1.size
      have hB2 : Below w.heap.size w w2 := (hbel.alloc hws _).trans hbel1
      clear hbel1 hown
      simp only [World.size_alloc] at hws2
      go_wp2_with (at_builtin; refine app_wpList rfl (.tmp 24) (.tmp 29) rfl w.heap.size _ (L ++ [37]) rfl (hown1.alloc _) ⟨w2.heap.size, 0, none⟩ 1 (hexI (s[k].toNat / 16) up) rfl (by simp) (by simp; omega) (by simp; omega) ?_; intro v3 w3 hown3 hbel3)
      refine (hexOf_any _ up _ (by omega) (by omega)).mono ?_
      rintro e w4 ⟨rfl, rfl⟩
      have hws4 := hbel3.size
      have hB4 : Below w.heap.size w w4 := (hB2.alloc (by omega) _).trans hbel3
      clear hbel3 hown1
      simp only [World.size_alloc] at hws4
      go_wp2_with (at_builtin; refine app_wpList rfl (.tmp 31) (.tmp 36) rfl w.heap.size _ (L ++ [37] ++ [hexI (s[k].toNat / 16) up]) rfl (hown3.alloc _) ⟨w4.heap.size, 0, none⟩ 1 (hexI (s[k].toNat % 16) up) rfl (by simp) (by simp; omega) (by simp; omega) ?_; intro v5 w5 hown5 hbel5)
      have hB5 : Below w.heap.size w w5 := (hB4.alloc (by omega) _).trans hbel5
      clear hbel5 hown3 hB4 hB2
      go_roundw
      case rel => exact ⟨k + 1, by omega, by go_num, by rw [HS.out]; exact hown5, hB5⟩
      case measure => simp [intOf]; omega
    · have hcv := hown.conv
      have HE : Hid _ := enc_end (fun _ => true) up s k (by omega)
      generalize encP (fun _ => true) up ((nums s).take k) = L at *
      go_wp2
      go_ret
      exact ⟨ret_str HE.out, hbel⟩

set_option maxHeartbeats 800000 in
theorem some_any (s : ByteArray) (w : World) (hs : s.size ≤ 262144) :
    Calls Trym.prog 21 #[.string s] w fun e w' => e = .returned (.string (strOfNums (encP mustB true (nums s)))) ∧ Below w.heap.size w w' := by
  obtain ⟨i0, hi, hz0, hz1, hz2⟩ := info_parts info5
  go_enter Trym.func21, Trym.ntmps21
  go_wp2_with (at_make; refine wpList_make_own _ rfl _ _ 30 rfl w.heap.size 5 i0 (.int .u8 0) 1 Trym.underlying30 hi hz0 hz1 .i64 .i64 _ (3 * s.size) rfl rfl (by omega) (by rw [hz2]; omega) (by unfold maxLen; omega) (Nat.le_refl _) ?_; intro w1 hown hgrow)
  have hb1 : Below w.heap.size w w1 := (Below.refl _ _).grown hgrow (Nat.le_refl _) (fun k h => by cases h)
  clear hi hz0 hz1 hz2 hgrow
  go_loopw [3, 4] (fun v i wr => ∃ k : Nat, k ≤ s.size ∧ i = .int .i64 k ∧ Has w.heap.size wr v (encP mustB true ((nums s).take k)) ∧ Below w.heap.size w wr) (fun _ i _ => s.size - (intOf i).toNat)
  case atStart => exact ⟨0, Nat.zero_le _, rfl, hown, hb1⟩
  case round =>
    clear hown hb1
    obtain ⟨k, hk, rfl, hown, hbel⟩ := hrel
    have hL := enc_le mustB true s k
    by_cases hlt : k < s.size
    · have hc := s[k].toNat_lt
      have hws := hbel.size
      by_cases hm : mustB (s[k].toNat : Int) = true
      · have HS : Hid _ := enc_step_esc mustB true s k hlt hm
        generalize encP mustB true ((nums s).take k) = L at *
        have hm' : ((s[k].toNat : Int) == 37) = true ∨ (((s[k].toNat : Int) == 37) = false ∧ (s[k].toNat : Int) < 33) ∨ (((s[k].toNat : Int) == 37) = false ∧ ¬ (s[k].toNat : Int) < 33 ∧ 127 ≤ (s[k].toNat : Int)) := by
          simp [mustB] at hm ⊢; omega
        clear hm
        rcases hm' with a | ⟨a, b⟩ | ⟨a, b, c⟩
        all_goals
          go_wp2_with (at_builtin; refine app_wpList rfl (.tmp 29) (.tmp 30) rfl w.heap.size _ L rfl (hown.alloc _) ⟨wr.heap.size, 0, none⟩ 1 37 rfl (by simp) (by omega) (by simp; omega) ?_; intro v1 w1 hown1 hbel1)
          refine (hexOf_any _ true _ (by omega) (by omega)).mono ?_
          rintro e w2 ⟨rfl, rfl⟩
          have hws2 := hbel1.size
          have hB2 : Below w.heap.size w w2 := (hbel.alloc hws _).trans hbel1
          clear hbel1 hown
          simp only [World.size_alloc] at hws2
          go_wp2_with (at_builtin; refine app_wpList rfl (.tmp 32) (.tmp 36) rfl w.heap.size _ (L ++ [37]) rfl (hown1.alloc _) ⟨w2.heap.size, 0, none⟩ 1 (hexI (s[k].toNat / 16) true) rfl (by simp) (by simp; omega) (by simp; omega) ?_; intro v3 w3 hown3 hbel3)
          refine (hexOf_any _ true _ (by omega) (by omega)).mono ?_
          rintro e w4 ⟨rfl, rfl⟩
          have hws4 := hbel3.size
          have hB4 : Below w.heap.size w w4 := (hB2.alloc (by omega) _).trans hbel3
          clear hbel3 hown1
          simp only [World.size_alloc] at hws4
          go_wp2_with (at_builtin; refine app_wpList rfl (.tmp 38) (.tmp 42) rfl w.heap.size _ (L ++ [37] ++ [hexI (s[k].toNat / 16) true]) rfl (hown3.alloc _) ⟨w4.heap.size, 0, none⟩ 1 (hexI (s[k].toNat % 16) true) rfl (by simp) (by simp; omega) (by simp; omega) ?_; intro v5 w5 hown5 hbel5)
          have hB5 : Below w.heap.size w w5 := (hB4.alloc (by omega) _).trans hbel5
          clear hbel5 hown3 hB4 hB2
          go_roundw
          case rel => exact ⟨k + 1, by omega, by go_num, by rw [HS.out]; exact hown5, hB5⟩
          case measure => simp [intOf]; omega
      · have HS : Hid _ := enc_step_lit mustB true s k hlt (by simpa using hm)
        generalize encP mustB true ((nums s).take k) = L at *
        have hm' : ((s[k].toNat : Int) == 37) = false ∧ ¬ (s[k].toNat : Int) < 33 ∧ ¬ 127 ≤ (s[k].toNat : Int) := by
          simp [mustB] at hm ⊢; omega
        clear hm
        obtain ⟨a, b, c⟩ := hm'
        go_wp2_with (at_builtin; refine app_wpList rfl (.tmp 44) (.tmp 46) rfl w.heap.size _ L rfl (hown.alloc _) ⟨wr.heap.size, 0, none⟩ 1 (s[k].toNat : Int) rfl (by simp) (by omega) (by simp; omega) ?_; intro v1 w1 hown1 hbel1)
        have hB5 : Below w.heap.size w w1 := (hbel.alloc (by omega) _).trans hbel1
        clear hbel1 hown
        go_roundw
        case rel => exact ⟨k + 1, by omega, by go_num, by rw [HS.out]; exact hown1, hB5⟩
        case measure => simp [intOf]; omega
    · have hcv := hown.conv
      have HE : Hid _ := enc_end mustB true s k (by omega)
      generalize encP mustB true ((nums s).take k) = L at *
      go_wp2
      go_ret
      exact ⟨ret_str HE.out, hbel⟩
end Go.Proofs.Qxb6600016aMods.Esc
