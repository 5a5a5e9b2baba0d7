/-
  The leaves: zzHexOf, isHex, unhex. By a prover of this seat.
-/
import Derived.Test.Qxb6600016aModsRows
import Derived.Test.Qxb6600016aModsPlain
import Derived.WalkKit
import Derived.ProofKit
import Derived.Below
import Derived.WalkSmall
import Derived.WalkSpells
import Derived.WalkLawsBesides
namespace Go.Proofs.Qxb6600016aMods.Esc
open Go.ChangeShapes Go.WideShapes Go.ChangeAt Go.RowKit

theorem ret_u8 {a b : Int} (h : a = b) : Ending.returned (.int .u8 a) = .returned (.int .u8 b) := by rw [h]

theorem ret_bool {a b : Bool} (h : a = b) : Ending.returned (.bool a) = .returned (.bool b) := by rw [h]

theorem hexOf_any (n : Int) (up : Bool) (w : World) (h0 : 0 ≤ n) (h1 : n ≤ 15) : Calls Trym.prog 37 #[.int .u8 n, .bool up] w fun e w' => e = .returned (.int .u8 (hexI n up)) ∧ w' = w := by
  have H : Hid (hexI n up = if n < 10 then 48 + n else if up then 55 + n else 87 + n) := rfl
  by_cases h : n < 10
  · go_enter Trym.func37, Trym.ntmps37
    go_wp2
    go_ret
    exact ⟨ret_u8 (by rw [H.out, if_pos h]), rfl⟩
  · cases up
    · go_enter Trym.func37, Trym.ntmps37
      go_wp2
      go_ret
      exact ⟨ret_u8 (by rw [H.out, if_neg (by omega)]; simp; omega), rfl⟩
    · go_enter Trym.func37, Trym.ntmps37
      go_wp2
      go_ret
      exact ⟨ret_u8 (by rw [H.out, if_neg (by omega)]; simp; omega), rfl⟩

theorem hex_cases {z : Int} (h : isHexB z = true) : (48 ≤ z ∧ z ≤ 57) ∨ (97 ≤ z ∧ z ≤ 102) ∨ (65 ≤ z ∧ z ≤ 70) := by
  simp [isHexB] at h; omega

theorem isHex_yes (z : Int) (w : World) (h : isHexB z = true) : Calls Trym.prog 44 #[.int .u8 z] w fun e w' => e = .returned (.bool true) ∧ w' = w := by
  rcases hex_cases h with ⟨a, b⟩ | ⟨a, b⟩ | ⟨a, b⟩
  all_goals
    clear h
    go_enter Trym.func44, Trym.ntmps44
    go_wp2
    go_ret
    first | exact ⟨rfl, rfl⟩ | exact ⟨ret_bool (by simp; omega), rfl⟩

theorem unhex_yes (z : Int) (w : World) (h : isHexB z = true) : Calls Trym.prog 45 #[.int .u8 z] w fun e w' => e = .returned (.int .u8 (unhexI z)) ∧ w' = w := by
  have H : Hid (unhexI z = if z ≤ 57 then z - 48 else if 97 ≤ z then z - 87 else z - 55) := rfl
  rcases hex_cases h with ⟨a, b⟩ | ⟨a, b⟩ | ⟨a, b⟩
  all_goals
    clear h
    go_enter Trym.func45, Trym.ntmps45
    go_wp2
    go_ret
    exact ⟨ret_u8 (by rw [H.out]; split <;> (try split) <;> omega), rfl⟩
end Go.Proofs.Qxb6600016aMods.Esc
