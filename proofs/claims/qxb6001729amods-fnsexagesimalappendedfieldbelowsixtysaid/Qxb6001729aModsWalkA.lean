/-
  The walk of sexagesimal. By a prover of this seat.
-/
import Derived.Test.Qxb6001729aModsRows
import Derived.Test.Qxb6001729aModsShelf
import Derived.Test.Qxb6001729aModsPlain
import Derived.WalkKit
import Derived.ProofKit
import Derived.Below
import Derived.WalkSmall
import Derived.WalkSpells
import Derived.WalkLawsBesides
import Derived.Lib.IndexLaws
import Derived.Deep.DeepCutAuto
import Derived.Deep.CutBlock
namespace Go.Proofs.Qxb6001729aMods.Sexa
open Go.ChangeShapes Go.WideShapes Go.ChangeAt Go.RowKit

def Row (bb n : Nat) (zs : List Int) (w : World) : Prop := ∀ i, i < n → w.cell? ⟨bb, i, none⟩ = some (.int .u8 (zs.getD i 0))
theorem Row.below {B bb n : Nat} {zs : List Int} {w w' : World} (h : Row bb n zs w) (hB : bb < B) (hb : Below B w w') : Row bb n zs w' :=
  fun i hi => (hb.cell (p := ⟨bb, i, none⟩) hB).trans (h i hi)

theorem ret_bool {a b : Bool} (h : a = b) : Ending.returned (.bool a) = .returned (.bool b) := by rw [h]

theorem isDigit_any (z : Int) (w : World) : Calls Trym.prog 32 #[.int .u8 z] w fun e w' => e = .returned (.bool (digB z)) ∧ w = w' := by
  have H : Hid (digB z = (decide (48 ≤ z) && decide (z ≤ 57))) := rfl
  go_enter Trym.func32, Trym.ntmps32
  go_wp2
  all_goals
    go_ret
    exact ⟨ret_bool (by rw [H.out]; first | (simp [*]; done) | (simp; omega)), rfl⟩
theorem zzIsDigit_any (z : Int) (w : World) : Calls Trym.prog 23 #[.int .u8 z] w fun e w' => e = .returned (.bool (digB z)) ∧ w = w' := by
  have H : Hid (digB z = (decide (48 ≤ z) && decide (z ≤ 57))) := rfl
  go_enter Trym.func23, Trym.ntmps23
  go_wp2
  all_goals
    go_ret
    exact ⟨ret_bool (by rw [H.out]; first | (simp [*]; done) | (simp; omega)), rfl⟩

/-- what bytes.IndexByte says of ':' -/
def colI (zs : List Int) : Int := Lib.indexByte (Lib.bytesOf zs) 58
theorem colI_any (bb n c : Nat) (zs : List Int) (w : World) (HL : Hid (zs.length = n)) (hr : Row bb n zs w) : Calls Trym.prog 31 #[.slice (some ⟨bb, 0, none⟩) n c, .int .u8 58] w fun e w' => e = .returned (.int .i64 (colI zs)) ∧ w = w' :=
  (Trym.bytes_IndexByte bb 0 n c zs 58 w HL.out (fun i hi => by rw [Nat.zero_add]; exact hr i hi)).mono fun _ _ h => ⟨h.1, h.2.symm⟩

def sgB : List Int → Bool
  | [] => false
  | c :: _ => c == 43 || c == 45
theorem sgB_eq (zs : List Int) (h : 0 < zs.length) : sgB zs = (zs[0]?.getD 0 == 43 || zs[0]?.getD 0 == 45) := by
  cases zs with
  | nil => cases h
  | cons c r => simp [sgB]
theorem startB_eq (zs : List Int) : startB zs = if sgB zs then zs.drop 1 else zs := by
  cases zs with
  | nil => rfl
  | cons c r => simp [startB, sgB]

theorem drop_at (zs : List Int) (n k : Nat) (hl : zs.length = n) (h : k < n) : zs.drop k = (zs[k]?.getD 0) :: zs.drop (k + 1) := by
  have hk : k < zs.length := by omega
  rw [List.drop_eq_getElem_cons hk]
  simp [List.getElem?_eq_getElem hk]

theorem five (x y : Int) : (48 ≤ x ∧ x ≤ 53 ∧ digB y = true ∧ lowB x = true) ∨ (48 ≤ x ∧ x ≤ 53 ∧ digB y = false ∧ lowB x = true ∧ digB x = true) ∨ (48 ≤ x ∧ ¬ x ≤ 53 ∧ digB x = true ∧ lowB x = false) ∨ (¬ 48 ≤ x ∧ digB x = false ∧ lowB x = false) ∨ (48 ≤ x ∧ ¬ x ≤ 53 ∧ digB x = false ∧ lowB x = false) := by
  cases digB y <;> simp [digB, lowB] <;> omega

/-- the fields' round -/
def FRel (zs : List Int) (k1 k p : Nat) : Prop := flds (zs.drop k) = flds (zs.drop k1) ∧ (p = 0 → k = k1) ∧ (0 < p → isColon (zs.drop k1) = true)
theorem FRel.step {zs : List Int} {k1 k p k' : Nat} (h : FRel zs k1 k p) (hd : zs.drop k = 58 :: zs.drop (k + 1)) (he : flds (zs.drop k') = flds (zs.drop k)) : FRel zs k1 k' (p + 1) := by
  refine ⟨he.trans h.1, fun e => by omega, fun _ => ?_⟩
  by_cases hp : p = 0
  · rw [← h.2.1 hp, hd]; rfl
  · exact h.2.2 (by omega)
theorem FRel.out {zs : List Int} {k1 k p : Nat} (h : FRel zs k1 k p) (hc : isColon (zs.drop k) = false) (he : flds (zs.drop k) = some (zs.drop k)) : flds (zs.drop k1) = some (zs.drop k) ∧ isColon (zs.drop k1) = decide (0 < p) := by
  refine ⟨h.1.symm.trans he, ?_⟩
  by_cases hp : p = 0
  · rw [← h.2.1 hp, hc, hp]; rfl
  · rw [h.2.2 (by omega)]; simp; omega
theorem fin_none (R : List Int) (h : flds R = none) : fin R = false := by unfold fin; rw [h]; simp

set_option maxRecDepth 100000 in
set_option maxHeartbeats 1600000 in
theorem sexa_any (bb n c : Nat) (zs : List Int) (w : World) (HL : Hid (zs.length = n)) (hn : n ≤ 1048579) (hr : Row bb n zs w) (h58 : Hid (zs.contains 58 = true)) (hcol : ¬ colI zs < 0) :
    Calls Trym.prog 26 #[.slice (some ⟨bb, 0, none⟩) n c] w fun e w' => e = .returned (.bool (sexa zs)) ∧ w' = w := by
  have h0 : 0 < n := by
    cases zs with
    | nil => cases h58.out
    | cons _ _ => have := HL.out; simp at this; omega
  have h0' : (0 : Int) < (n : Int) := by omega
  have hcd : decide (colI zs < 0) = false := by simpa using hcol
  go_enter Trym.func26, Trym.ntmps26
  go_wp2_with fail
  refine (colI_any bb n c zs _ HL hr).mono ?_
  rintro e w1 ⟨rfl, rfl⟩
  have Hr : Hid _ := hr
  clear hr
  go_upto_region 4 with fail
  go_cut [25] (fun cc wx => cc = .bool (sgB zs) ∧ w = wx)
  case first =>
    have hc0 := Hr.out 0 h0
    have HS : Hid (sgB zs = (zs[0]?.getD 0 == 43 || zs[0]?.getD 0 == 45)) := sgB_eq zs (by rw [HL.out]; exact h0)
    go_wp2
    all_goals
      go_meet
      exact ⟨congrArg Value.bool (by rw [HS.out] <;> simp [*]), rfl⟩
  case rest =>
    obtain ⟨rfl, rfl⟩ := hcut
    go_upto_if 25 with fail
    go_cut [3] (fun i wx => ∃ k0 : Nat, i = .int .i64 k0 ∧ Hid (startB zs = zs.drop k0) ∧ k0 ≤ n ∧ w = wx)
    case first =>
      have HT : Hid _ := startB_eq zs
      cases hsg : sgB zs
      · go_wp2
        go_meet
        exact ⟨0, rfl, by show _ = _; rw [HT.out, hsg]; rfl, Nat.zero_le _, rfl⟩
      · go_wp2
        go_meet
        exact ⟨1, rfl, by show _ = _; rw [HT.out, hsg]; rfl, h0, rfl⟩
    case rest =>
      obtain ⟨k0, rfl, HK, hk0, rfl⟩ := hcut
      have HX : Hid (sexa zs = bodyB (zs.drop k0)) := by show _ = _; unfold sexa; rw [h58.out, HK.out]; rfl
      by_cases hkn : k0 = n
      · have hk' : ((k0 : Int) == (n : Int)) = true := by simp; omega
        have HY : Hid (sexa zs = false) := by show _ = _; rw [HX.out, List.drop_eq_nil_of_le (by have := HL.out; omega)]; rfl
        clear hkn
        go_wp2
        go_ret
        exact ⟨ret_bool HY.out.symm, rfl⟩
      · have hk' : ((k0 : Int) == (n : Int)) = false := by simp; omega
        have hkl : (k0 : Int) < (n : Int) := by omega
        have hc := Hr.out k0 (by omega)
        have HY : Hid (sexa zs = (digB (zs[k0]?.getD 0) && fin (skipD (zs.drop (k0 + 1))))) := by show _ = _; rw [HX.out, drop_at zs n k0 HL.out (by omega)]; rfl
        clear hkn HX HK
        cases hdg : digB (zs[k0]?.getD 0)
        · go_wp2_with (go_at_call 32; refine (isDigit_any _ _).mono ?_; rintro e w' ⟨rfl, rfl⟩)
          go_ret
          exact ⟨ret_bool (by rw [HY.out, hdg]; rfl), rfl⟩
        · go_upto_block 0 with (go_at_call 32; refine (isDigit_any _ _).mono ?_; rintro e w' ⟨rfl, rfl⟩)
          go_cut [3] (fun i wx => ∃ k1 : Nat, i = .int .i64 k1 ∧ Hid (zs.drop k1 = skipD (zs.drop (k0 + 1))) ∧ k1 ≤ n ∧ w = wx)
          case first =>
            go_wp2_with fail
            go_loop [3] (fun i => ∃ k : Nat, i = .int .i64 k ∧ Hid (skipD (zs.drop k) = skipD (zs.drop (k0 + 1))) ∧ k ≤ n) (fun i => n - (intOf i).toNat)
            case atStart => exact ⟨k0 + 1, by go_num, rfl, by omega⟩
            case round =>
              obtain ⟨k, rfl, HK, hk⟩ := hrel
              by_cases hlt : k < n
              · have hlt' : (k : Int) < (n : Int) := by omega
                have hc := Hr.out k hlt
                have HD : Hid _ := drop_at zs n k HL.out hlt
                rcases (show digB (zs[k]?.getD 0) = true ∨ (digB (zs[k]?.getD 0) = false ∧ (zs[k]?.getD 0 == 95) = true) ∨ (digB (zs[k]?.getD 0) = false ∧ (zs[k]?.getD 0 == 95) = false) from by cases digB (zs[k]?.getD 0) <;> cases (zs[k]?.getD 0 == 95) <;> simp) with hd | ⟨hd, hu⟩ | ⟨hd, hu⟩
                · go_wp2_with (go_at_call 32; refine (isDigit_any _ _).mono ?_; rintro e w' ⟨rfl, rfl⟩)
                  go_round
                  case rel => exact ⟨k + 1, by go_num, HK.out ▸ by show _ = _; rw [HD.out, skipD, hd]; rfl, by omega⟩
                  case measure => simp [intOf]; omega
                · go_wp2_with (go_at_call 32; refine (isDigit_any _ _).mono ?_; rintro e w' ⟨rfl, rfl⟩)
                  go_round
                  case rel => exact ⟨k + 1, by go_num, HK.out ▸ by show _ = _; rw [HD.out, skipD, hd, hu]; rfl, by omega⟩
                  case measure => simp [intOf]; omega
                · go_wp2_with (go_at_call 32; refine (isDigit_any _ _).mono ?_; rintro e w' ⟨rfl, rfl⟩)
                  go_meet
                  exact ⟨k, rfl, HK.out ▸ by show _ = _; rw [HD.out, skipD, hd, hu]; rfl, hk, rfl⟩
              · have hlt' : ¬ (k : Int) < (n : Int) := by omega
                have hld : decide ((k : Int) < (n : Int)) = false := by simpa using hlt'
                go_wp2
                go_meet
                exact ⟨k, rfl, HK.out ▸ by show _ = _; rw [List.drop_eq_nil_of_le (by have := HL.out; omega)]; rfl, hk, rfl⟩
          case rest =>
            obtain ⟨k1, rfl, HK, hk1, rfl⟩ := hcut
            have HZ : Hid (sexa zs = fin (zs.drop k1)) := by show _ = _; rw [HY.out, hdg, HK.out]; rfl
            clear HK HY hdg hk' hkl hc
            go_upto_block 2 with fail
            go_cut [3, 4] (fun i pl wx => ∃ k2 p : Nat, i = .int .i64 k2 ∧ pl = .int .i64 p ∧ Hid (flds (zs.drop k1) = some (zs.drop k2) ∧ isColon (zs.drop k1) = decide (0 < p)) ∧ k2 ≤ n ∧ p ≤ k2 ∧ w = wx)
            case first =>
              go_wp2_with fail
              go_loop [3, 4] (fun i pl => ∃ k p : Nat, i = .int .i64 k ∧ pl = .int .i64 p ∧ Hid (FRel zs k1 k p) ∧ k ≤ n ∧ p ≤ k) (fun i _ => n - (intOf i).toNat)
              case atStart => exact ⟨k1, 0, rfl, rfl, ⟨rfl, fun _ => rfl, fun h => absurd h (by omega)⟩, hk1, Nat.zero_le _⟩
              case round =>
                obtain ⟨k, p, rfl, rfl, HF, hk, hp⟩ := hrel
                by_cases hlt : k < n
                · have hlt' : (k : Int) < (n : Int) := by omega
                  have hc := Hr.out k hlt
                  have HD : Hid _ := drop_at zs n k HL.out hlt
                  by_cases h5 : (zs[k]?.getD 0 == 58) = true
                  · have HD' : Hid (zs.drop k = 58 :: zs.drop (k + 1)) := by show _ = _; rw [HD.out]; congr 1; simpa using h5
                    by_cases ha : k + 1 = n
                    · have ha1 : ¬ ((k : Int) + 1 + 1 < (n : Int)) := by omega
                      have ha2 : ¬ ((k : Int) + 1 < (n : Int)) := by omega
                      have had : decide ((k : Int) + 1 + 1 < (n : Int)) = false := by simpa using ha1
                      have had2 : decide ((k : Int) + 1 < (n : Int)) = false := by simpa using ha2
                      have HN : Hid (sexa zs = false) := by show _ = _; rw [HZ.out]; exact fin_none _ (HF.out.1 ▸ by rw [HD'.out, List.drop_eq_nil_of_le (by have := HL.out; omega), flds_zero])
                      clear ha
                      go_wp2_with (go_at_call 32; refine (isDigit_any _ _).mono ?_; rintro e w' ⟨rfl, rfl⟩)
                      go_ret
                      exact ⟨ret_bool HN.out.symm, rfl⟩
                    · have hx2 : (k : Int) + 1 < (n : Int) := by omega
                      have hcx := Hr.out (k + 1) (by omega)
                      have HX1 : Hid _ := drop_at zs n (k + 1) HL.out (by omega)
                      by_cases hb : k + 2 = n
                      · have ha1 : ¬ ((k : Int) + 1 + 1 < (n : Int)) := by omega
                        have had : decide ((k : Int) + 1 + 1 < (n : Int)) = false := by simpa using ha1
                        have HE : Hid (flds (zs.drop k) = if digB (zs[k + 1]?.getD 0) then some [] else none) := by show _ = _; rw [HD'.out, HX1.out, List.drop_eq_nil_of_le (by have := HL.out; omega), flds_one]
                        have HE2 : Hid (zs.drop (k + 2) = []) := List.drop_eq_nil_of_le (by have := HL.out; omega)
                        clear hb
                        cases hdx : digB (zs[k + 1]?.getD 0)
                        · have HN : Hid (sexa zs = false) := by show _ = _; rw [HZ.out]; exact fin_none _ (HF.out.1 ▸ by rw [HE.out, hdx]; rfl)
                          go_wp2_with (go_at_call 32; refine (isDigit_any _ _).mono ?_; rintro e w' ⟨rfl, rfl⟩)
                          go_ret
                          exact ⟨ret_bool HN.out.symm, rfl⟩
                        · have HG : Hid (FRel zs k1 (k + 2) (p + 1)) := FRel.step HF.out HD'.out (by rw [HE2.out, HE.out, hdx, flds_nil]; rfl)
                          go_wp2_with (go_at_call 32; refine (isDigit_any _ _).mono ?_; rintro e w' ⟨rfl, rfl⟩)
                          go_round
                          case rel => exact ⟨k + 2, p + 1, by go_num, by go_num, HG, by omega, by omega⟩
                          case measure => simp [intOf]; omega
                      · have hx3 : (k : Int) + 1 + 1 < (n : Int) := by omega
                        have hcy := Hr.out (k + 2) (by omega)
                        have HX2 : Hid _ := drop_at zs n (k + 2) HL.out (by omega)
                        have HE : Hid (flds (zs.drop k) = if lowB (zs[k + 1]?.getD 0) && digB (zs[k + 2]?.getD 0) then flds (zs.drop (k + 3)) else if digB (zs[k + 1]?.getD 0) then flds (zs.drop (k + 2)) else none) := by
                          show _ = _; rw [HD'.out, HX1.out, show k + 1 + 1 = k + 2 from rfl, HX2.out, flds_two]
                        clear ha hb
                        rcases five (zs[k + 1]?.getD 0) (zs[k + 2]?.getD 0) with ⟨a, b, d, e1⟩ | ⟨a, b, d, e1, e2⟩ | ⟨a, b, d, e1⟩ | ⟨a, d, e1⟩ | ⟨a, b, d, e1⟩
                        · have HG : Hid (FRel zs k1 (k + 3) (p + 1)) := FRel.step HF.out HD'.out (by rw [HE.out, e1, d]; rfl)
                          clear e1
                          go_wp2_with (go_at_call 32; refine (isDigit_any _ _).mono ?_; rintro e w' ⟨rfl, rfl⟩)
                          go_round
                          case rel => exact ⟨k + 3, p + 1, by go_num, by go_num, HG, by omega, by omega⟩
                          case measure => simp [intOf]; omega
                        · have HG : Hid (FRel zs k1 (k + 2) (p + 1)) := FRel.step HF.out HD'.out (by rw [HE.out, d, e2]; simp)
                          clear e1
                          go_wp2_with (go_at_call 32; refine (isDigit_any _ _).mono ?_; rintro e w' ⟨rfl, rfl⟩)
                          go_round
                          case rel => exact ⟨k + 2, p + 1, by go_num, by go_num, HG, by omega, by omega⟩
                          case measure => simp [intOf]; omega
                        · have HG : Hid (FRel zs k1 (k + 2) (p + 1)) := FRel.step HF.out HD'.out (by rw [HE.out, e1, d]; simp)
                          clear e1
                          go_wp2_with (go_at_call 32; refine (isDigit_any _ _).mono ?_; rintro e w' ⟨rfl, rfl⟩)
                          go_round
                          case rel => exact ⟨k + 2, p + 1, by go_num, by go_num, HG, by omega, by omega⟩
                          case measure => simp [intOf]; omega
                        · have HN : Hid (sexa zs = false) := by show _ = _; rw [HZ.out]; exact fin_none _ (HF.out.1 ▸ by rw [HE.out, e1, d]; simp)
                          clear e1
                          go_wp2_with (go_at_call 32; refine (isDigit_any _ _).mono ?_; rintro e w' ⟨rfl, rfl⟩)
                          go_ret
                          exact ⟨ret_bool HN.out.symm, rfl⟩
                        · have HN : Hid (sexa zs = false) := by show _ = _; rw [HZ.out]; exact fin_none _ (HF.out.1 ▸ by rw [HE.out, e1, d]; simp)
                          clear e1
                          go_wp2_with (go_at_call 32; refine (isDigit_any _ _).mono ?_; rintro e w' ⟨rfl, rfl⟩)
                          go_ret
                          exact ⟨ret_bool HN.out.symm, rfl⟩
                  · have h5' : (zs[k]?.getD 0 == 58) = false := by simpa using h5
                    have HG : Hid (flds (zs.drop k1) = some (zs.drop k) ∧ isColon (zs.drop k1) = decide (0 < p)) :=
                      FRel.out HF.out (by rw [HD.out, isColon, h5']) (by rw [HD.out]; exact flds_other _ _ (by simpa using h5))
                    clear h5
                    go_wp2
                    go_meet
                    exact ⟨k, p, rfl, rfl, HG, hk, hp, rfl⟩
                · have hlt' : ¬ (k : Int) < (n : Int) := by omega
                  have hld : decide ((k : Int) < (n : Int)) = false := by simpa using hlt'
                  have HE : Hid (zs.drop k = []) := List.drop_eq_nil_of_le (by have := HL.out; omega)
                  have HG : Hid (flds (zs.drop k1) = some (zs.drop k) ∧ isColon (zs.drop k1) = decide (0 < p)) :=
                    FRel.out HF.out (by rw [HE.out]; rfl) (by rw [HE.out, flds_nil])
                  go_wp2
                  go_meet
                  exact ⟨k, p, rfl, rfl, HG, hk, hp, rfl⟩
            case rest =>
              obtain ⟨k2, p, rfl, rfl, HG, hk2, hp, rfl⟩ := hcut
              have HW : Hid (sexa zs = (decide (0 < p) && endB (zs.drop k2))) := by show _ = _; rw [HZ.out]; unfold fin; rw [HG.out.1, HG.out.2]
              clear HG HZ
              by_cases hp0 : 0 < p
              · have hp1 : (0 : Int) < (p : Int) := by omega
                by_cases hlt : k2 < n
                · have hlt' : (k2 : Int) < (n : Int) := by omega
                  have hne : ((k2 : Int) == (n : Int)) = false := by simp; omega
                  have hc := Hr.out k2 hlt
                  have HD : Hid _ := drop_at zs n k2 HL.out hlt
                  by_cases h46 : (zs[k2]?.getD 0 == 46) = true
                  · have HV : Hid (sexa zs = (skipD (zs.drop (k2 + 1))).isEmpty) := by show _ = _; rw [HW.out, HD.out, endB, h46]; simp [hp0]
                    go_wp2_with fail
                    go_loop [3] (fun i => ∃ k : Nat, i = .int .i64 k ∧ Hid (skipD (zs.drop k) = skipD (zs.drop (k2 + 1))) ∧ k ≤ n) (fun i => n - (intOf i).toNat)
                    case atStart => exact ⟨k2 + 1, by go_num, rfl, by omega⟩
                    case round =>
                      clear hne hc HD h46 hlt hlt'
                      obtain ⟨k, rfl, HK, hk⟩ := hrel
                      by_cases hlt : k < n
                      · have hlt' : (k : Int) < (n : Int) := by omega
                        have hne : ((k : Int) == (n : Int)) = false := by simp; omega
                        have hc := Hr.out k hlt
                        have HD : Hid _ := drop_at zs n k HL.out hlt
                        rcases (show digB (zs[k]?.getD 0) = true ∨ (digB (zs[k]?.getD 0) = false ∧ (zs[k]?.getD 0 == 95) = true) ∨ (digB (zs[k]?.getD 0) = false ∧ (zs[k]?.getD 0 == 95) = false) from by cases digB (zs[k]?.getD 0) <;> cases (zs[k]?.getD 0 == 95) <;> simp) with hd | ⟨hd, hu⟩ | ⟨hd, hu⟩
                        · go_wp2_with (go_at_call 32; refine (isDigit_any _ _).mono ?_; rintro e w' ⟨rfl, rfl⟩)
                          go_round
                          case rel => exact ⟨k + 1, by go_num, HK.out ▸ by show _ = _; rw [HD.out, skipD, hd]; rfl, by omega⟩
                          case measure => simp [intOf]; omega
                        · go_wp2_with (go_at_call 32; refine (isDigit_any _ _).mono ?_; rintro e w' ⟨rfl, rfl⟩)
                          go_round
                          case rel => exact ⟨k + 1, by go_num, HK.out ▸ by show _ = _; rw [HD.out, skipD, hd, hu]; rfl, by omega⟩
                          case measure => simp [intOf]; omega
                        · have HN : Hid (sexa zs = false) := by show _ = _; rw [HV.out, ← HK.out, HD.out, skipD, hd, hu]; rfl
                          go_wp2_with (go_at_call 32; refine (isDigit_any _ _).mono ?_; rintro e w' ⟨rfl, rfl⟩)
                          go_ret
                          exact ⟨ret_bool HN.out.symm, rfl⟩
                      · have hlt' : ¬ (k : Int) < (n : Int) := by omega
                        have hld : decide ((k : Int) < (n : Int)) = false := by simpa using hlt'
                        have hne : ((k : Int) == (n : Int)) = true := by simp; omega
                        have HN : Hid (sexa zs = true) := by show _ = _; rw [HV.out, ← HK.out, List.drop_eq_nil_of_le (by have := HL.out; omega)]; rfl
                        go_wp2
                        go_ret
                        exact ⟨ret_bool HN.out.symm, rfl⟩
                  · have h46' : (zs[k2]?.getD 0 == 46) = false := by simpa using h46
                    have HN : Hid (sexa zs = false) := by show _ = _; rw [HW.out, HD.out, endB, h46']; simp
                    clear h46
                    go_wp2
                    go_ret
                    exact ⟨ret_bool HN.out.symm, rfl⟩
                · have hlt' : ¬ (k2 : Int) < (n : Int) := by omega
                  have hld : decide ((k2 : Int) < (n : Int)) = false := by simpa using hlt'
                  have hne : ((k2 : Int) == (n : Int)) = true := by simp; omega
                  have HN : Hid (sexa zs = true) := by show _ = _; rw [HW.out, List.drop_eq_nil_of_le (by have := HL.out; omega)]; simp [endB, hp0]
                  go_wp2
                  go_ret
                  exact ⟨ret_bool HN.out.symm, rfl⟩
              · have hp1 : ¬ (0 : Int) < (p : Int) := by omega
                have hpd : decide ((0 : Int) < (p : Int)) = false := by simpa using hp1
                have HN : Hid (sexa zs = false) := by show _ = _; rw [HW.out]; simp [hp0]
                go_wp2
                go_ret
                exact ⟨ret_bool HN.out.symm, rfl⟩
end Go.Proofs.Qxb6001729aMods.Sexa
