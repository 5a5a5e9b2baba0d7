/-
  The walk of skip. By a prover of this seat.
-/
import Derived.Test.Qxb6000801aModsWalkA
import Derived.Test.Qxb6000801aModsShelf
namespace Go.Proofs.Qxb6000801aMods.SkipW
open Go.ChangeShapes Go.WideShapes Go.ChangeAt Go.RowKit

def isDel (z : Int) : Bool := z == 44 || z == 58 || z == 93 || z == 125

/-- what 'skip' leaves -/
def SkipRel (B n c : Nat) (x : Option Addr) (zs : List Int) (p : Nat) (w wr : World) (r : Nat) : Prop :=
  p ≤ r ∧ r ≤ n + 1 ∧ (r = p ↔ (p = n ∨ isDel (zs[p]?.getD 0) = true)) ∧ Box B n c x wr r ∧ Below B w wr

theorem skipRel_far {B n c : Nat} {x : Option Addr} {zs : List Int} {p q r : Nat} {w w1 w2 : World} (HS : SpaceRel B n c x zs p w w1 q) (hq : q < n) (hd : isDel (zs[q]?.getD 0) = false)
    (h1 : q < r) (h2 : r ≤ n + 1) (hb : Box B n c x w2 r) (hbel : Below B w w2) : SkipRel B n c x zs p w w2 r := by
  obtain ⟨a1, a2, a3, a4, a5⟩ := HS
  refine ⟨by omega, h2, ⟨fun e => by omega, fun e => ?_⟩, hb, hbel⟩
  rcases e with e | e
  · omega
  · by_cases hpq : p = q
    · rw [hpq, hd] at e; cases e
    · have := a3 (by omega)
      exfalso
      simp [isDel, isSp] at e this; omega

theorem skipRel_at {B n c : Nat} {x : Option Addr} {zs : List Int} {p q : Nat} {w w1 w2 : World} (HS : SpaceRel B n c x zs p w w1 q) (hd : q < n → isDel (zs[q]?.getD 0) = true)
    (hb : Box B n c x w2 q) (hbel : Below B w w2) : SkipRel B n c x zs p w w2 q := by
  obtain ⟨a1, a2, a3, a4, a5⟩ := HS
  refine ⟨by omega, by omega, ⟨fun e => ?_, fun e => ?_⟩, hb, hbel⟩
  · by_cases hq : q < n
    · subst e; exact .inr (hd hq)
    · exact .inl (by omega)
  · rcases e with e | e
    · omega
    · by_cases hpq : p < q
      · have := a3 hpq
        exfalso
        simp [isDel, isSp] at e this; omega
      · omega

/-- what strings.IndexByte says of the text of the ends -/
def endAt (z : Int) : Int := Lib.indexByte [44, 58, 93, 125, 32, 9, 13, 10] z.toNat.toUInt8
theorem index_any (z : Int) (w : World) : Calls Trym.prog 24 #[.string { data := #[44, 58, 93, 125, 32, 9, 13, 10] }, .int .u8 z] w fun e w' => e = .returned (.int .i64 (endAt z)) ∧ w' = w :=
  Trym.strings_IndexByte { data := #[44, 58, 93, 125, 32, 9, 13, 10] } z w

theorem endAt_nat : ∀ m : Nat, m < 256 → (decide (endAt (m : Int) < 0)) = !(isDel (m : Int) || isSp (m : Int)) := by decide +kernel
theorem endAt_lt (z : Int) (h0 : 0 ≤ z) (h1 : z ≤ 255) : endAt z < 0 ↔ (isDel z = false ∧ isSp z = false) := by
  obtain ⟨m, rfl⟩ := Int.eq_ofNat_of_zero_le h0
  have := endAt_nat m (by omega)
  by_cases h : endAt (m : Int) < 0
  · simp [h] at this ⊢; exact this
  · simp [h] at this ⊢; exact this

/-- the round of the plain token -/
def TokRel (B n c : Nat) (x : Option Addr) (zs : List Int) (q : Nat) (w wr : World) (k : Nat) : Prop :=
  q ≤ k ∧ k ≤ n ∧ (q < k → isDel (zs[q]?.getD 0) = false) ∧ Box B n c x wr k ∧ Below B w wr

theorem TokRel.step {B n c : Nat} {x : Option Addr} {zs : List Int} {p : Nat} {w wr : World} {k : Nat} (h : TokRel B n c x zs p w wr k) (hk : k < n) (hs : isDel (zs[k]?.getD 0) = false) (m : Nat) :
    TokRel B n c x zs p w ((wr.drewN m).setCell ⟨B, 1, none⟩ (.int .i64 ((k : Int) + 1))) (k + 1) := by
  obtain ⟨h1, h2, h3, h4, h5⟩ := h
  refine ⟨by omega, by omega, fun _ => ?_, h4.put m (by omega), bel_put h5 _ _⟩
  by_cases e : p = k
  · rw [e]; exact hs
  · exact h3 (by omega)

set_option maxHeartbeats 800000 in
theorem skip_any (B n c bb : Nat) (x : Option Addr) (hx : 0 < n → x = some ⟨bb, 0, none⟩) (zs : List Int) (hz : Hid (∀ i : Nat, 0 ≤ zs[i]?.getD 0 ∧ zs[i]?.getD 0 ≤ 255)) (p : Nat) (w : World) (hB : 0 < n → bb < B) (hn : n ≤ 65536) (hp : p ≤ n)
    (hb : Box B n c x w p) (hr : Row bb n zs w) :
    Calls Trym.prog 19 #[.pointer (some ⟨B, 0, none⟩)] w fun e w' => e = .returned (.tuple #[]) ∧ ∃ r : Nat, SkipRel B n c x zs p w w' r := by
  go_enter Trym.func19, Trym.ntmps19
  go_wp2_with fail
  refine (space_any B n c bb x hx zs p w hB hn hp hb hr).mono ?_
  rintro e w1 ⟨rfl, q, HS, hns⟩
  obtain ⟨h1, h2, h3, ⟨c0, c1, fz⟩, hbel⟩ := id HS
  by_cases hlt : q < n
  · obtain rfl := hx (by omega)
    have hlt' : (q : Int) < (n : Int) := by omega
    have hge : ¬ (n ≤ q) := by omega
    have hc := hr q hlt
    rw [← hbel.cell (p := ⟨bb, q, none⟩) (hB (by omega))] at hc
    have Hns : Hid (isSp (zs[q]?.getD 0) = false) := hns hlt
    clear hns h3
    by_cases hq : (zs[q]?.getD 0 == 34) = true
    · have Hnd : Hid (isDel (zs[q]?.getD 0) = false) := by show isDel _ = _; simp [isDel] at hq ⊢; omega
      go_wp2_with fail
      go_quiet (fail)
      go_wp2_with fail
      go_quiet (fail)
      go_wp2_with fail
      refine (skipString_any B n c bb _ (fun _ => rfl) zs q _ hB hn hlt (by exact ⟨c0, c1, fz⟩) (by exact hr.below hB (below_drewN hbel _))).mono ?_
      rintro e w2 ⟨rfl, r, s1, s2, s3, s4⟩
      go_wp2_with fail
      go_end0
      exact ⟨rfl, r, skipRel_far HS hlt Hnd (by omega) s2 s3 ((below_drewN hbel _).trans s4)⟩
    · have hq' : (zs[q]?.getD 0 == 34) = false := by simpa using hq
      clear hq
      by_cases ho : (zs[q]?.getD 0 == 123) = true ∨ (zs[q]?.getD 0 == 91) = true
      · have Hnd : Hid (isDel (zs[q]?.getD 0) = false) := by show isDel _ = _; simp [isDel] at ho ⊢; omega
        have ho' : (zs[q]?.getD 0 == 123) = true ∨ ((zs[q]?.getD 0 == 123) = false ∧ (zs[q]?.getD 0 == 91) = true) := by
          by_cases hh : (zs[q]?.getD 0 == 123) = true
          · exact .inl hh
          · exact .inr ⟨by simpa using hh, ho.resolve_left hh⟩
        clear ho
        rcases ho' with ho1 | ⟨ho1, ho2⟩
        all_goals
          go_wp2_with fail
          go_quiet (fail)
          go_wp2_with fail
          go_quiet (fail)
          go_wp2_with fail
          go_loopw [2] (fun d wr => ∃ k : Nat, ∃ dd : Int, d = .int .i64 dd ∧ q ≤ k ∧ k ≤ n + 1 ∧ Box B n c (some ⟨bb, 0, none⟩) wr k ∧ Below B w wr) (fun _ wr => n + 1 - (((wr.cell? ⟨B, 1, none⟩).map intOf).getD 0).toNat)
          case atStart => exact ⟨q, 0, rfl, Nat.le_refl _, by omega, ⟨c0, c1, fz⟩, below_drewN hbel _⟩
          case round =>
            clear c0 c1 fz hc
            obtain ⟨k, dd, rfl, t1, t2, hbx, kbel⟩ := hrel
            obtain ⟨c0, c1, fz⟩ := id hbx
            by_cases hkl : k < n
            · have hkl' : (k : Int) < (n : Int) := by omega
              have hc := hr k hkl
              rw [← kbel.cell (p := ⟨bb, k, none⟩) (hB (by omega))] at hc
              by_cases hk34 : (zs[k]?.getD 0 == 34) = true
              · go_wp2_with fail
                go_quiet (fail)
                go_wp2_with fail
                go_quiet (fail)
                go_wp2_with fail
                refine (skipString_any B n c bb _ (fun _ => rfl) zs k _ hB hn hkl (by exact ⟨c0, c1, fz⟩) (by exact hr.below hB (below_drewN kbel _))).mono ?_
                rintro e w2 ⟨rfl, r, s1, s2, s3, s4⟩
                go_wp2_with fail
                go_roundw
                case rel => exact ⟨r, dd, rfl, by omega, by omega, s3, (below_drewN kbel _).trans s4⟩
                case measure => exact ms_put hbx (n + 1) s3 (by omega) (by omega) (by omega)
              · have hk34' : (zs[k]?.getD 0 == 34) = false := by simpa using hk34
                clear hk34
                go_wp2_with fail
                go_quiet (fail)
                go_wp2_with fail
                go_quiet (fail)
                go_wp2_with fail
                all_goals first
                  | exact ⟨⟨k + 1, _, rfl, by omega, by omega, Box.put ⟨c0, c1, fz⟩ _ (by omega), bel_put kbel _ _⟩, ms_put ⟨c0, c1, fz⟩ (n + 1) (Box.put ⟨c0, c1, fz⟩ _ rfl) (by omega) (by omega) (by omega)⟩
                  | exact bodyPost_ret (results_none rfl _ _ _) rfl ⟨rfl, k + 1, skipRel_far HS hlt Hnd (by omega) (by omega) (Box.put ⟨c0, c1, fz⟩ _ (by omega)) (bel_put kbel _ _)⟩
            · have hkl' : ¬ (k : Int) < (n : Int) := by omega
              go_wp2_with fail
              go_quiet (fail)
              go_wp2_with fail
              go_end0
              exact ⟨rfl, k, skipRel_far HS hlt Hnd (by omega) t2 ⟨c0, c1, fz⟩ (below_drewN kbel _)⟩
      · have ho1 : (zs[q]?.getD 0 == 123) = false := by simp at ho ⊢; exact ho.1
        have ho2 : (zs[q]?.getD 0 == 91) = false := by simp at ho ⊢; exact ho.2
        clear ho
        go_wp2_with fail
        go_quiet (fail)
        go_wp2_with fail
        go_quiet (fail)
        go_wp2_with fail
        go_loopw [] (fun wr => ∃ k : Nat, TokRel B n c (some ⟨bb, 0, none⟩) zs q w wr k) (fun wr => n - (((wr.cell? ⟨B, 1, none⟩).map intOf).getD 0).toNat)
        case atStart => exact ⟨q, Nat.le_refl _, by omega, fun h => absurd h (by omega), ⟨c0, c1, fz⟩, below_drewN hbel _⟩
        case round =>
          clear c0 c1 fz hc
          obtain ⟨k, HR⟩ := hrel
          obtain ⟨t1, t2, t3, ⟨c0, c1, fz⟩, kbel⟩ := id HR
          clear t3
          by_cases hkl : k < n
          · have hkl' : (k : Int) < (n : Int) := by omega
            have hc := hr k hkl
            rw [← kbel.cell (p := ⟨bb, k, none⟩) (hB (by omega))] at hc
            by_cases hE : endAt (zs[k]?.getD 0) < 0
            · go_wp2_with fail
              go_quiet ((go_at_call 24; exact Calls.quiet_of_same (index_any _ _)))
              go_wp2_with fail
              go_roundw
              case rel => exact ⟨k + 1, HR.step hkl ((endAt_lt _ (hz.out k).1 (hz.out k).2).1 hE).1 _⟩
              case measure => exact ms_put ⟨c0, c1, fz⟩ n (Box.put ⟨c0, c1, fz⟩ _ rfl) (by omega) (by omega) (by omega)
            · have hE' : decide (endAt (zs[k]?.getD 0) < 0) = false := by simpa using hE
              go_wp2_with fail
              go_quiet ((go_at_call 24; exact Calls.quiet_of_same (index_any _ _)))
              go_wp2_with fail
              go_end0
              refine ⟨rfl, k, ?_⟩
              by_cases hkq : k = q
              · subst hkq
                refine skipRel_at HS (fun _ => ?_) ⟨c0, c1, fz⟩ (below_drewN kbel _)
                by_cases hd : isDel (zs[k]?.getD 0) = true
                · exact hd
                · exact absurd ((endAt_lt _ (hz.out k).1 (hz.out k).2).2 ⟨by simpa using hd, Hns⟩) (by omega)
              · exact skipRel_far HS hlt (HR.2.2.1 (by omega)) (by omega) (by omega) ⟨c0, c1, fz⟩ (below_drewN kbel _)
          · have hkl' : ¬ (k : Int) < (n : Int) := by omega
            have hkd : decide ((k : Int) < (n : Int)) = false := by simpa using hkl
            go_wp2_with fail
            go_quiet (fail)
            go_wp2_with fail
            go_end0
            exact ⟨rfl, k, skipRel_far HS hlt (HR.2.2.1 (by omega)) (by omega) (by omega) ⟨c0, c1, fz⟩ (below_drewN kbel _)⟩
  · have hlt' : ¬ (q : Int) < (n : Int) := by omega
    have hlt2 : (n : Int) ≤ (q : Int) := by omega
    go_wp2_with fail
    go_quiet (fail)
    go_wp2_with fail
    refine bodyPost_ret (results_none rfl _ _ _) rfl ?_
    exact ⟨rfl, q, skipRel_at HS (fun h => absurd h hlt) ⟨c0, c1, fz⟩ (below_drewN hbel _)⟩
end Go.Proofs.Qxb6000801aMods.SkipW
