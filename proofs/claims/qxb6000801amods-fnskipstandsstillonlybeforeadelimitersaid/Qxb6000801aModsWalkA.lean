/-
  The walks of the JSON field walker: space, skipString, skip. By a prover of this seat.
-/
import Derived.Test.Qxb6000801aModsRows
import Derived.WalkKit
import Derived.ProofKit
import Derived.Below
import Derived.WalkSmall
import Derived.WalkSpells
import Derived.WalkLawsBesides
import Derived.RegionTactic
import Derived.Deep.QuietTactic
import Derived.BigQuiet
namespace Go.Proofs.Qxb6000801aMods.SkipW
open Go.ChangeShapes Go.WideShapes Go.ChangeAt Go.RowKit

/-- the walker's box at block B: the body's slice and the place -/
structure Box (B n c : Nat) (x : Option Addr) (w : World) (p : Int) : Prop where
  c0 : w.cell? ⟨B, 0, none⟩ = some (.slice x n c)
  c1 : w.cell? ⟨B, 1, none⟩ = some (.int .i64 p)
  fz : w.frozen? ⟨B, 1, none⟩ = false

def Row (bb n : Nat) (zs : List Int) (w : World) : Prop := ∀ i, i < n → w.cell? ⟨bb, i, none⟩ = some (.int .u8 (zs.getD i 0))

theorem Row.below {B bb n : Nat} {zs : List Int} {w w' : World} (h : Row bb n zs w) (hB : 0 < n → bb < B) (hb : Below B w w') : Row bb n zs w' :=
  fun i hi => (hb.cell (p := ⟨bb, i, none⟩) (hB (by omega))).trans (h i hi)

theorem Box.put {B n c : Nat} {x : Option Addr} {w : World} {k : Int} (h : Box B n c x w k) (m : Nat) {q q' : Int} (e : q = q') : Box B n c x ((w.drewN m).setCell ⟨B, 1, none⟩ (.int .i64 q)) q' := by
  subst e
  refine ⟨?_, ?_, ?_⟩
  · exact (World.cell?_setCell_other _ _ _ _ (by simp)).trans h.c0
  · exact World.cell?_setCell_same _ _ _ (u := .int .i64 k) h.c1
  · exact (World.frozen?_setCell _ _ _ _).trans h.fz

theorem Box.put2 {B n c : Nat} {x : Option Addr} {w : World} {k : Int} (h : Box B n c x w k) (m : Nat) (v : Int) {q q' : Int} (e : q = q') : Box B n c x (((w.drewN m).setCell ⟨B, 1, none⟩ (.int .i64 v)).setCell ⟨B, 1, none⟩ (.int .i64 q)) q' :=
  (h.put m (q := v) rfl).put 0 e

theorem bel_put {B : Nat} {a w : World} (h : Below B a w) (m : Nat) (v : Value) : Below B a ((w.drewN m).setCell ⟨B, 1, none⟩ v) :=
  (below_drewN h m).setCell (Nat.le_refl _) v

theorem ms_put {B n c : Nat} {x : Option Addr} {w : World} {k : Int} (h : Box B n c x w k) (L : Nat) {W : World} {q : Int} (hW : Box B n c x W q) (h0 : 0 ≤ k) (h1 : k < q) (h2 : k < L) :
    L - (((W.cell? ⟨B, 1, none⟩).map intOf).getD 0).toNat < L - (((w.cell? ⟨B, 1, none⟩).map intOf).getD 0).toNat := by
  rw [h.c1, hW.c1]; simp [intOf]; omega

def isSp (z : Int) : Bool := z == 32 || z == 9 || z == 13 || z == 10
theorem sp_1 {z : Int} (h : (z == 32) = true) : isSp z = true := by simp [isSp, h]
theorem sp_2 {z : Int} (h : (z == 9) = true) : isSp z = true := by simp [isSp, h]
theorem sp_3 {z : Int} (h : (z == 13) = true) : isSp z = true := by simp [isSp, h]
theorem sp_4 {z : Int} (h : (z == 10) = true) : isSp z = true := by simp [isSp, h]
theorem sp_5 {z : Int} (h : (z == 32) = false) (h2 : (z == 9) = false) (h3 : (z == 13) = false) (h4 : (z == 10) = false) : isSp z = false := by simp [isSp, h, h2, h3, h4]

theorem getD_eq (zs : List Int) (k : Nat) : zs[k]?.getD 0 = zs.getD k 0 := by simp

/-- what 'space' leaves -/
def SpaceRel (B n c : Nat) (x : Option Addr) (zs : List Int) (p : Nat) (w wr : World) (k : Nat) : Prop :=
  p ≤ k ∧ k ≤ n ∧ (p < k → isSp (zs[p]?.getD 0) = true) ∧ Box B n c x wr k ∧ Below B w wr

theorem SpaceRel.step {B n c : Nat} {x : Option Addr} {zs : List Int} {p : Nat} {w wr : World} {k : Nat} (h : SpaceRel B n c x zs p w wr k) (hk : k < n) (hs : isSp (zs[k]?.getD 0) = true) (m : Nat) :
    SpaceRel B n c x zs p w ((wr.drewN m).setCell ⟨B, 1, none⟩ (.int .i64 ((k : Int) + 1))) (k + 1) := by
  obtain ⟨h1, h2, h3, h4, h5⟩ := h
  refine ⟨by omega, by omega, fun _ => ?_, h4.put m (by omega), bel_put h5 _ _⟩
  by_cases e : p = k
  · rw [e]; exact hs
  · exact h3 (by omega)

set_option maxHeartbeats 400000 in
theorem space_any (B n c bb : Nat) (x : Option Addr) (hx : 0 < n → x = some ⟨bb, 0, none⟩) (zs : List Int) (p : Nat) (w : World) (hB : 0 < n → bb < B) (hn : n ≤ 65536) (hp : p ≤ n)
    (hb : Box B n c x w p) (hr : Row bb n zs w) :
    Calls Trym.prog 23 #[.pointer (some ⟨B, 0, none⟩)] w fun e w' => e = .returned (.tuple #[]) ∧ ∃ q : Nat, SpaceRel B n c x zs p w w' q ∧ (q < n → isSp (zs[q]?.getD 0) = false) := by
  go_enter Trym.func23, Trym.ntmps23
  go_wp2
  go_loopw [] (fun wr => ∃ k : Nat, SpaceRel B n c x zs p w wr k) (fun wr => n - (((wr.cell? ⟨B, 1, none⟩).map intOf).getD 0).toNat)
  case atStart => exact ⟨p, Nat.le_refl _, hp, fun h => absurd h (by omega), hb, Below.refl _ _⟩
  case round =>
    obtain ⟨k, HR⟩ := hrel
    obtain ⟨h1, h2, h3, ⟨c0, c1, fz⟩, hbel⟩ := id HR
    by_cases hlt : k < n
    · obtain rfl := hx (by omega)
      have hlt' : (k : Int) < (n : Int) := by omega
      have hc := hr k hlt
      rw [← hbel.cell (p := ⟨bb, k, none⟩) (hB (by omega))] at hc
      clear h3
      go_wp2
      go_quiet (fail)
      go_wp2
      go_quiet (fail)
      go_wp2
      iterate 4
        · go_roundw
          case rel => exact ⟨k + 1, HR.step hlt (by first | exact sp_1 ‹_› | exact sp_2 ‹_› | exact sp_3 ‹_› | exact sp_4 ‹_›) _⟩
          case measure => exact ms_put ⟨c0, c1, fz⟩ n (Box.put ⟨c0, c1, fz⟩ _ rfl) (by omega) (by omega) (by omega)
      · refine bodyPost_ret (results_none rfl _ _ _) rfl ?_
        exact ⟨rfl, k, ⟨h1, h2, HR.2.2.1, ⟨c0, c1, fz⟩, below_drewN hbel _⟩, fun _ => sp_5 ‹_› ‹_› ‹_› ‹_›⟩
    · have hlt' : ¬ (k : Int) < (n : Int) := by omega
      go_wp2
      go_quiet (fail)
      go_wp2
      go_end0
      exact ⟨rfl, k, ⟨h1, h2, h3, ⟨c0, c1, fz⟩, below_drewN hbel _⟩, fun h => absurd h hlt⟩

/-- what 'skipString' leaves: it has gone on, at most one past the end -/
def StrRel (B n c : Nat) (x : Option Addr) (p : Nat) (w wr : World) (k : Nat) : Prop :=
  p + 1 ≤ k ∧ k ≤ n + 1 ∧ Box B n c x wr k ∧ Below B w wr

set_option maxHeartbeats 400000 in
theorem skipString_any (B n c bb : Nat) (x : Option Addr) (hx : 0 < n → x = some ⟨bb, 0, none⟩) (zs : List Int) (p : Nat) (w : World) (hB : 0 < n → bb < B) (hn : n ≤ 65536) (hp : p < n)
    (hb : Box B n c x w p) (hr : Row bb n zs w) :
    Calls Trym.prog 21 #[.pointer (some ⟨B, 0, none⟩)] w fun e w' => e = .returned (.tuple #[]) ∧ ∃ q : Nat, StrRel B n c x p w w' q := by
  obtain ⟨c0, c1, fz⟩ := id hb
  go_enter Trym.func21, Trym.ntmps21
  go_wp2
  go_loopw [] (fun wr => ∃ k : Nat, StrRel B n c x p w wr k) (fun wr => n + 1 - (((wr.cell? ⟨B, 1, none⟩).map intOf).getD 0).toNat)
  case atStart => exact ⟨p + 1, Nat.le_refl _, by omega, hb.put 0 (by omega), bel_put (Below.refl _ _) 0 _⟩
  case round =>
    clear c0 c1 fz
    obtain ⟨k, HR⟩ := hrel
    obtain ⟨h1, h2, ⟨c0, c1, fz⟩, hbel⟩ := id HR
    by_cases hlt : k < n
    · obtain rfl := hx (by omega)
      have hlt' : (k : Int) < (n : Int) := by omega
      have hc := hr k hlt
      rw [← hbel.cell (p := ⟨bb, k, none⟩) (hB (by omega))] at hc
      go_wp2
      go_quiet (fail)
      go_wp2
      go_quiet (fail)
      go_wp2
      · go_roundw
        case rel => exact ⟨k + 2, by omega, by omega, Box.put2 ⟨c0, c1, fz⟩ _ _ (by omega), (bel_put hbel _ _).setCell (Nat.le_refl _) _⟩
        case measure => exact ms_put ⟨c0, c1, fz⟩ (n + 1) (Box.put2 ⟨c0, c1, fz⟩ _ _ rfl) (by omega) (by omega) (by omega)
      · refine bodyPost_ret (results_none rfl _ _ _) rfl ?_
        exact ⟨rfl, k + 1, by omega, by omega, Box.put ⟨c0, c1, fz⟩ _ (by omega), bel_put hbel _ _⟩
      · go_roundw
        case rel => exact ⟨k + 1, by omega, by omega, Box.put ⟨c0, c1, fz⟩ _ (by omega), bel_put hbel _ _⟩
        case measure => exact ms_put ⟨c0, c1, fz⟩ (n + 1) (Box.put ⟨c0, c1, fz⟩ _ rfl) (by omega) (by omega) (by omega)
    · have hlt' : ¬ (k : Int) < (n : Int) := by omega
      go_wp2
      go_quiet (fail)
      go_wp2
      go_end0
      exact ⟨rfl, k, ⟨h1, h2, ⟨c0, c1, fz⟩, below_drewN hbel _⟩⟩
end Go.Proofs.Qxb6000801aMods.SkipW
