/-
  The law's own walk. By a prover of this seat.
-/
import Derived.Test.Qxb6600016aModsEnc
import Derived.Test.Qxb6600016aModsDec
namespace Go.Proofs.Qxb6600016aMods.Esc
open Go.ChangeShapes Go.WideShapes Go.ChangeAt Go.RowKit

theorem enc_str (must : Int → Bool) (up : Bool) (hm : ∀ c, must c = false → c ≠ 37) (s : ByteArray) (hs : s.size ≤ 262144) :
    (strOfNums (encP must up (nums s))).size ≤ 800000 ∧ dec (nums (strOfNums (encP must up (nums s)))) = some (nums s) := by
  refine ⟨?_, ?_⟩
  · rw [strOfNums_size]
    have := enc_length must up (nums s)
    rw [nums_length] at this
    omega
  · rw [nums_strOfNums _ (enc_range must up (nums s) (nums_range s))]
    exact dec_enc must up hm (nums s) (nums_range s)

theorem bytes_yes (s : ByteArray) (w : World) (hn : s.size ≤ 262144) : Calls Trym.prog 18 #[.string s] w fun e w' => e = .returned (.bool true) ∧ w' = w := by
  go_enter Trym.func18, Trym.ntmps18
  go_wp2
  go_ret
  exact ⟨rfl, rfl⟩

set_option maxHeartbeats 400000 in
theorem law_long (s : ByteArray) (w : World) (hn : 262144 < s.size) (hm : s.size ≤ maxLen) : Calls Trym.prog 6 #[.string s] w fun e w' => e = .returned (.bool true) ∧ Below w.heap.size w w' := by
  unfold maxLen at hm
  by_cases h : 1048576 < s.size
  · go_enter Trym.func6, Trym.ntmps6
    go_wp2
    go_ret
    exact ⟨rfl, Below.refl _ _⟩
  · go_enter Trym.func6, Trym.ntmps6
    go_wp2
    go_ret
    exact ⟨rfl, Below.refl _ _⟩

set_option maxHeartbeats 400000 in
theorem law_short (s : ByteArray) (w : World) (hn : s.size ≤ 262144) : Calls Trym.prog 6 #[.string s] w fun e w' => e = .returned (.bool true) ∧ Below w.heap.size w w' := by
  have E1 : Hid _ := enc_str (fun _ => true) true (fun _ h => by cases h) s hn
  have E2 : Hid _ := enc_str (fun _ => true) false (fun _ h => by cases h) s hn
  have E3 : Hid _ := enc_str mustB true (fun c h => by intro e; subst e; cases h) s hn
  have SN : Hid _ := strOfNums_nums s
  have a1 : ∀ w, Calls Trym.prog 20 #[.string s, .bool true] w fun e w' => ∃ t, Hid (t.size ≤ 800000 ∧ dec (nums t) = some (nums s)) ∧ e = .returned (.string t) ∧ Below w.heap.size w w' :=
    fun w => (all_any s true w hn).mono fun e w' h => ⟨_, E1, h.1, h.2⟩
  have a2 : ∀ w, Calls Trym.prog 20 #[.string s, .bool false] w fun e w' => ∃ t, Hid (t.size ≤ 800000 ∧ dec (nums t) = some (nums s)) ∧ e = .returned (.string t) ∧ Below w.heap.size w w' :=
    fun w => (all_any s false w hn).mono fun e w' h => ⟨_, E2, h.1, h.2⟩
  have a3 : ∀ w, Calls Trym.prog 21 #[.string s] w fun e w' => ∃ t, Hid (t.size ≤ 800000 ∧ dec (nums t) = some (nums s)) ∧ e = .returned (.string t) ∧ Below w.heap.size w w' :=
    fun w => (some_any s w hn).mono fun e w' h => ⟨_, E3, h.1, h.2⟩
  have b1 : ∀ t w, Hid (t.size ≤ 800000 ∧ dec (nums t) = some (nums s)) → Calls Trym.prog 19 #[.string t] w fun e w' => e = .returned (.tuple #[.string s, .bool true]) ∧ Below w.heap.size w w' := by
    intro t w h
    have := shim_any t (nums s) w h.out.1 h.out.2
    rw [SN.out] at this
    exact this
  have A1 : Hid _ := a1
  have A2 : Hid _ := a2
  have A3 : Hid _ := a3
  have B1 : Hid _ := b1
  clear a1 a2 a3 b1 E1 E2 E3 SN
  go_enter Trym.func6, Trym.ntmps6
  go_wp2_with fail
  refine (bytes_yes s _ hn).mono ?_
  rintro e w0 ⟨rfl, rfl⟩
  go_wp2_with fail
  refine (A1.out _).mono ?_
  rintro e w1 ⟨t, ht, rfl, hb1⟩
  go_wp2_with fail
  refine (B1.out t _ ht).mono ?_
  rintro e w2 ⟨rfl, hb2⟩
  have H2 : Below w0.heap.size w0 w2 := hb1.trans (hb2.mono hb1.size)
  clear hb1 hb2 ht
  go_wp2_with fail
  refine (A2.out _).mono ?_
  rintro e w3 ⟨t2, ht, rfl, hb1⟩
  go_wp2_with fail
  refine (B1.out t2 _ ht).mono ?_
  rintro e w4 ⟨rfl, hb2⟩
  have H4 : Below w0.heap.size w0 w4 := H2.trans ((hb1.trans (hb2.mono hb1.size)).mono H2.size)
  clear hb1 hb2 ht H2
  go_wp2_with fail
  refine (A3.out _).mono ?_
  rintro e w5 ⟨t3, ht, rfl, hb1⟩
  go_wp2_with fail
  refine (B1.out t3 _ ht).mono ?_
  rintro e w6 ⟨rfl, hb2⟩
  have H6 : Below w0.heap.size w0 w6 := H4.trans ((hb1.trans (hb2.mono hb1.size)).mono H4.size)
  clear hb1 hb2 ht H4
  go_wp2
  go_ret
  exact ⟨rfl, H6⟩
end Go.Proofs.Qxb6600016aMods.Esc
