/-
  The walks of onlyBlankLines and seek. By a prover of this seat.
-/
import Derived.Test.Qxb6601160aModsRows
import Derived.Test.Qxb6601160aModsShelf
import Derived.Test.Qxb6601160aModsPlain
import Derived.WalkKit
import Derived.ProofKit
import Derived.Below
import Derived.WalkSmall
import Derived.WalkSpells
import Derived.WalkLawsBesides
import Derived.Lib.IndexLaws
import Derived.Deep.DeepCutAuto
import Derived.Deep.CutBlock
import Derived.Deep.QuietTactic
import Derived.BigQuiet
namespace Go.Proofs.Qxb6601160aMods.Seek
open Go.ChangeShapes Go.WideShapes Go.ChangeAt Go.RowKit

def Row (bb n : Nat) (zs : List Int) (w : World) : Prop := ∀ i, i < n → w.cell? ⟨bb, i, none⟩ = some (.int .u8 (zs.getD i 0))
theorem Row.below {B bb n : Nat} {zs : List Int} {w w' : World} (h : Row bb n zs w) (hB : 0 < n → bb < B) (hb : Below B w w') : Row bb n zs w' :=
  fun i hi => (hb.cell (p := ⟨bb, i, none⟩) (hB (by omega))).trans (h i hi)

theorem ret_bool {a b : Bool} (h : a = b) : Ending.returned (.bool a) = .returned (.bool b) := by rw [h]

theorem step_nl {l : Bool} {z : Int} (h : (z == 10) = true) : step l z = some true := by simp [step, h]
theorem step_skip {z : Int} (h : (z == 10) = false) : step false z = some false := by simp [step, h]
theorem step_sp {z : Int} (h : (z == 10) = false) (h2 : (z == 32) = true) : step true z = some true := by simp [step, h, h2]
theorem step_co {z : Int} (h : (z == 10) = false) (h2 : (z == 32) = false) (h3 : (z == 35) = true) : step true z = some false := by simp [step, h, h2, h3]
theorem step_no {z : Int} (h : (z == 10) = false) (h2 : (z == 32) = false) (h3 : (z == 35) = false) : step true z = none := by simp [step, h, h2, h3]

set_option maxHeartbeats 800000 in
theorem blank_any (bb n c : Nat) (x : Option Addr) (hx : Hid (0 < n → x = some ⟨bb, 0, none⟩)) (zs : List Int) (HL : Hid (zs.length = n)) (f0 m : Nat) (hn : n ≤ 1048576) (hm : m ≤ n) (w : World) (hr : Row bb n zs w) :
    Calls Trym.prog 10 #[.slice x n c, .int .i64 f0, .int .i64 m] w fun e w' => e = .returned (.bool (S zs f0 m).isSome) ∧ w = w' := by
  have hmn : ¬ ((n : Int) < (m : Int)) := by omega
  have Hr : Hid _ := hr
  clear hr
  go_enter Trym.func10, Trym.ntmps10
  go_wp2
  go_loop [7, 8] (fun d i => ∃ (k : Nat) (l : Bool), i = .int .i64 k ∧ d = .bool l ∧ f0 ≤ k ∧ (f0 < k → k ≤ m) ∧ Hid (S zs f0 k = some l)) (fun _ i => m - (intOf i).toNat)
  case atStart => exact ⟨f0, true, rfl, rfl, Nat.le_refl _, fun h => absurd h (by omega), S_start zs f0 f0 (Nat.le_refl _)⟩
  case round =>
    obtain ⟨k, l, rfl, rfl, hk, hkm, HS⟩ := hrel
    by_cases hlt : k < m
    · obtain rfl := hx.out (by omega)
      have hlt' : (k : Int) < (m : Int) := by omega
      have hkn : (k : Int) < (n : Int) := by omega
      have hc := Hr.out k (by omega)
      have HT : Hid _ := S_succ zs n f0 k HL.out hk (by omega)
      cases h10 : (zs[k]?.getD 0 == 10)
      · cases l
        · have HG : Hid (S zs f0 (k + 1) = some false) := by show _ = _; rw [HT.out, HS.out]; exact step_skip h10
          go_wp2
          go_round
          case rel => exact ⟨k + 1, false, by go_num, rfl, by omega, fun _ => by omega, HG⟩
          case measure => simp [intOf]; omega
        · cases h32 : (zs[k]?.getD 0 == 32)
          · cases h35 : (zs[k]?.getD 0 == 35)
            · have HG : Hid ((S zs f0 m).isSome = false) := by
                show _ = _
                have h1 : S zs f0 (k + 1) = none := by rw [HT.out, HS.out]; exact step_no h10 h32 h35
                have h2 := S_none zs n f0 HL.out (m - (k + 1)) (k + 1) (by omega) (by omega) h1
                rw [show k + 1 + (m - (k + 1)) = m by omega] at h2
                rw [h2]; rfl
              go_wp2
              go_ret
              exact ⟨ret_bool HG.out.symm, rfl⟩
            · have HG : Hid (S zs f0 (k + 1) = some false) := by show _ = _; rw [HT.out, HS.out]; exact step_co h10 h32 h35
              go_wp2
              go_round
              case rel => exact ⟨k + 1, false, by go_num, rfl, by omega, fun _ => by omega, HG⟩
              case measure => simp [intOf]; omega
          · have HG : Hid (S zs f0 (k + 1) = some true) := by show _ = _; rw [HT.out, HS.out]; exact step_sp h10 h32
            go_wp2
            go_round
            case rel => exact ⟨k + 1, true, by go_num, rfl, by omega, fun _ => by omega, HG⟩
            case measure => simp [intOf]; omega
      · have HG : Hid (S zs f0 (k + 1) = some true) := by show _ = _; rw [HT.out, HS.out]; exact step_nl h10
        go_wp2
        go_round
        case rel => exact ⟨k + 1, true, by go_num, rfl, by omega, fun _ => by omega, HG⟩
        case measure => simp [intOf]; omega
    · have hlt' : ¬ (k : Int) < (m : Int) := by omega
      have HG : Hid ((S zs f0 m).isSome = true) := by
        show _ = _
        by_cases e : f0 < k
        · have : k = m := by have := hkm e; omega
          rw [← this, HS.out]; rfl
        · rw [S_start zs f0 m (by omega)]; rfl
      go_wp2
      go_ret
      exact ⟨ret_bool HG.out.symm, rfl⟩

/-- what bytes.IndexByte says of the LF behind f -/
def nlI (zs : List Int) (f : Nat) : Int := Lib.indexByte (Lib.bytesOf (zs.drop f)) 10
theorem nlI_any (bb n c : Nat) (zs : List Int) (w : World) (HL : Hid (zs.length = n)) (f : Nat) (hr : Row bb n zs w) : Calls Trym.prog 19 #[.slice (some ⟨bb, f, none⟩) (n - f) c, .int .u8 10] w fun e w' => e = .returned (.int .i64 (nlI zs f)) ∧ w = w' :=
  (Trym.bytes_IndexByte bb f (n - f) c (zs.drop f) 10 w (by rw [List.length_drop, HL.out]) (fun i hi => by rw [hr (f + i) (by omega)]; simp)).mono fun _ _ h => ⟨h.1, h.2.symm⟩

theorem nlI_line (zs : List Int) (n f : Nat) (hl : zs.length = n) (hz : ∀ c ∈ zs, 0 ≤ c ∧ c ≤ 255) (hf : f < n) :
    ∃ E, Line zs n f E ∧ ((nlI zs f = -1 ∧ E = n) ∨ (nlI zs f = (E : Int) - (f : Int) ∧ E < n)) := by
  have key : ∀ k : Nat, (Lib.bytesOf (zs.drop f))[k]? = some 10 ↔ zs[f + k]? = some 10 := by
    intro k
    unfold Lib.bytesOf
    rw [List.getElem?_map, List.getElem?_drop]
    cases hk : zs[f + k]? with
    | none => simp
    | some z =>
      obtain ⟨h0, h1⟩ := hz z (List.mem_of_getElem? hk)
      simp only [Option.map_some, Option.some.injEq]
      constructor
      · intro e
        have := congrArg UInt8.toNat e
        simp at this
        omega
      · intro e; subst e; rfl
  have get10 : ∀ i, i < n → (zs[i]?.getD 0 = 10 ↔ zs[i]? = some 10) := by
    intro i hi
    rw [List.getElem?_eq_getElem (show i < zs.length by omega)]
    simp
  have hge := Lib.indexByte_ge (Lib.bytesOf (zs.drop f)) 10
  by_cases hneg : nlI zs f < 0
  · have hm : nlI zs f = -1 := by unfold nlI at *; omega
    have hn := Lib.indexByte_none hm
    refine ⟨n, ⟨by omega, Nat.le_refl _, fun i h1 h2 e => ?_, .inl rfl⟩, .inl ⟨hm, rfl⟩⟩
    refine hn (i - f) ((key (i - f)).2 ?_)
    rw [show f + (i - f) = i by omega]
    exact (get10 i h2).1 e
  · obtain ⟨j, hj⟩ := Int.eq_ofNat_of_zero_le (show 0 ≤ nlI zs f by omega)
    obtain ⟨h1, h2⟩ := Lib.indexByte_some hj
    have h1' := (key j).1 h1
    have hjn : f + j < n := by have := (List.getElem?_eq_some_iff.1 h1').1; omega
    refine ⟨f + j, ⟨by omega, by omega, fun i a b e => ?_, .inr ((get10 _ hjn).2 h1')⟩, .inr ⟨by rw [hj]; omega, hjn⟩⟩
    refine h2 (i - f) (by omega) ((key (i - f)).2 ?_)
    rw [show f + (i - f) = i by omega]
    exact (get10 i (by omega)).1 e

/-- the reader's box -/
structure BR (B n : Nat) (x : Option Addr) (w : World) (s e i a : Int) (eof : Bool) : Prop where
  c0 : w.cell? ⟨B, 0, none⟩ = some (.slice x n n)
  c1 : w.cell? ⟨B, 1, none⟩ = some (.int .i64 s)
  c2 : w.cell? ⟨B, 2, none⟩ = some (.int .i64 e)
  c3 : w.cell? ⟨B, 3, none⟩ = some (.int .i64 i)
  c4 : w.cell? ⟨B, 4, none⟩ = some (.int .i64 a)
  c5 : w.cell? ⟨B, 5, none⟩ = some (.bool eof)
  fz : ∀ j, w.frozen? ⟨B, j, none⟩ = false

/-- how seek ends -/
def Out (zs : List Int) (n f0 : Nat) (s0 e0 i0 a0 : Int) (eof0 : Bool) (s e i a : Int) (eof : Bool) : Prop :=
  ((S zs f0 n).isSome = true ∧ s = s0 ∧ e = e0 ∧ i = i0 ∧ a = a0 ∧ eof = true) ∨
  ∃ f E p : Nat, Found zs n f0 f E p ∧ s = f ∧ e = E ∧ i = (p : Int) - (f : Int) ∧ a = p ∧ eof = eof0

def SeekPost (B n : Nat) (x : Option Addr) (zs : List Int) (f0 : Nat) (s0 e0 i0 a0 : Int) (eof0 : Bool) (w w' : World) : Prop :=
  ∃ s e i a eof, BR B n x w' s e i a eof ∧ Below B w w' ∧ Out zs n f0 s0 e0 i0 a0 eof0 s e i a eof

theorem bel_put {B : Nat} {a w : World} (h : Below B a w) (j : Nat) (v : Value) : Below B a (w.setCell ⟨B, j, none⟩ v) := h.setCell (p := ⟨B, j, none⟩) (Nat.le_refl B) v
theorem cell_put {w : World} {B j k : Nat} {u v : Value} (h : w.cell? ⟨B, j, none⟩ = some u) (hjk : k ≠ j) : (w.setCell ⟨B, k, none⟩ v).cell? ⟨B, j, none⟩ = some u :=
  (World.cell?_setCell_other _ _ _ _ (fun e' => hjk (congrArg Addr.off e'))).trans h
theorem cell_same {w : World} {B j : Nat} {u v : Value} (h : w.cell? ⟨B, j, none⟩ = some u) : (w.setCell ⟨B, j, none⟩ v).cell? ⟨B, j, none⟩ = some v := World.cell?_setCell_same _ _ _ h

set_option maxRecDepth 100000 in
set_option maxHeartbeats 1600000 in
theorem seek_any (B bb n : Nat) (x : Option Addr) (hx : Hid (0 < n → x = some ⟨bb, 0, none⟩)) (zs : List Int) (HL : Hid (zs.length = n)) (hz : Hid (∀ c ∈ zs, 0 ≤ c ∧ c ≤ 255)) (f0 : Nat) (hn : n ≤ 1048576) (s0 e0 i0 a0 : Int) (eof0 : Bool) (w : World)
    (hbr : BR B n x w s0 e0 i0 a0 eof0) (hr : Row bb n zs w) :
    Calls Trym.prog 17 #[.pointer (some ⟨B, 0, none⟩), .int .i64 f0] w fun r w' => r = .returned (.tuple #[]) ∧ SeekPost B n x zs f0 s0 e0 i0 a0 eof0 w w' := by
  have Hr : Hid _ := hr
  have HB : Hid _ := hbr
  obtain ⟨c0, c1, c2, c3, c4, c5, fz⟩ := hbr
  clear hr
  go_enter Trym.func17, Trym.ntmps17
  go_wp2
  go_loop [1] (fun i => ∃ f : Nat, i = .int .i64 f ∧ Hid (SInv zs n f0 f)) (fun i => n - (intOf i).toNat)
  case atStart => exact ⟨f0, rfl, SInv.start zs n f0⟩
  case round =>
    obtain ⟨f, rfl, HS⟩ := hrel
    by_cases hlt : f < n
    · obtain rfl := hx.out (by omega)
      have hlt' : (f : Int) < (n : Int) := by omega
      obtain ⟨E, HLn, hE⟩ := nlI_line zs n f HL.out hz.out hlt
      have hE1 := HLn.le
      have hE2 := HLn.top
      have HLine : Hid _ := HLn
      have HE : Hid _ := hE
      have hq1 : -1 ≤ nlI zs f := by omega
      have hq2 : nlI zs f ≤ (n : Int) := by omega
      clear HLn hE
      go_upto_if 24 with (go_at_call 19; refine (nlI_any bb n _ zs _ HL f Hr.out).mono ?_; rintro e w' ⟨rfl, rfl⟩)
      go_cut [4] (fun v wx => v = .int .i64 E ∧ w = wx)
      case first =>
        by_cases hneg : nlI zs f < 0
        · have HEn : Hid (E = n) := by show _ = _; have := HE.out; omega
          go_wp2
          go_meet
          exact ⟨by rw [HEn.out], rfl⟩
        · have HEn : Hid ((f : Int) + nlI zs f = (E : Int)) := by show _ = _; have := HE.out; omega
          go_wp2
          go_meet
          exact ⟨congrArg (Value.int .i64) HEn.out, rfl⟩
      case rest =>
        obtain ⟨rfl, rfl⟩ := hcut
        clear hq1 hq2 HE
        go_wp2
        go_loop [5] (fun i => ∃ a : Nat, i = .int .i64 a ∧ f ≤ a ∧ a ≤ E ∧ Hid (∀ i, f ≤ i → i < a → zs[i]?.getD 0 = 32)) (fun i => E - (intOf i).toNat)
        case atStart => exact ⟨f, rfl, Nat.le_refl _, hE1, fun i h1 h2 => absurd h2 (by omega)⟩
        case round =>
          obtain ⟨a, rfl, ha1, ha2, HSp⟩ := hrel
          by_cases haE : a < E
          · have haE' : (a : Int) < (E : Int) := by omega
            have han : (a : Int) < (n : Int) := by omega
            have hc := Hr.out a (by omega)
            cases h32 : (zs[a]?.getD 0 == 32)
            · cases h35 : (zs[a]?.getD 0 == 35)
              · have h35' : (zs[a]?.getD 0 != 35) = true := by simpa using h35
                have HF : Hid (Found zs n f0 f E a) := SInv.found HL.out HS.out hlt HLine.out ha1 haE HSp.out (by simpa using h32) (by simpa using h35)
                have hf1 := fz 1
                have hf2 := fz 2
                have hf3 := fz 3
                have hf4 := fz 4
                clear h35
                go_wp2
                refine bodyPost_ret (results_none rfl _ _ _) rfl ?_
                refine ⟨rfl, f, E, (a : Int) - (f : Int), a, eof0, ?_, bel_put (bel_put (bel_put (bel_put (Below.refl B w) 1 _) 2 _) 3 _) 4 _, .inr ⟨f, E, a, HF.out, rfl, rfl, rfl, rfl, rfl⟩⟩
                refine ⟨?_, ?_, ?_, ?_, ?_, ?_, fun j => ?_⟩
                · exact cell_put (cell_put (cell_put (cell_put c0 (by decide)) (by decide)) (by decide)) (by decide)
                · exact cell_put (cell_put (cell_put (cell_same c1) (by decide)) (by decide)) (by decide)
                · exact cell_put (cell_put (cell_same (cell_put c2 (by decide))) (by decide)) (by decide)
                · exact cell_put (cell_same (cell_put (cell_put c3 (by decide)) (by decide))) (by decide)
                · exact cell_same (cell_put (cell_put (cell_put c4 (by decide)) (by decide)) (by decide))
                · exact cell_put (cell_put (cell_put (cell_put c5 (by decide)) (by decide)) (by decide)) (by decide)
                · rw [World.frozen?_setCell, World.frozen?_setCell, World.frozen?_setCell, World.frozen?_setCell]; exact fz j
              · have h35' : (zs[a]?.getD 0 != 35) = false := by simpa using h35
                have HG : Hid (SInv zs n f0 (E + 1)) := SInv.next HL.out HS.out hlt HLine.out ha1 ha2 HSp.out (.inr (by simpa using h35))
                clear h35
                go_wp2
                go_round
                case rel => exact ⟨E + 1, by go_num, HG⟩
                case measure => simp [intOf]; omega
            · have HG : Hid (∀ i, f ≤ i → i < a + 1 → zs[i]?.getD 0 = 32) := fun i h1 h2 => by
                by_cases e : i = a
                · rw [e]; simpa using h32
                · exact HSp.out i h1 (by omega)
              go_wp2
              go_round
              case rel => exact ⟨a + 1, by go_num, by omega, by omega, HG⟩
              case measure => simp [intOf]; omega
          · have haE' : ¬ (a : Int) < (E : Int) := by omega
            have had : decide ((a : Int) < (E : Int)) = false := by simpa using haE'
            have HG : Hid (SInv zs n f0 (E + 1)) := SInv.next HL.out HS.out hlt HLine.out ha1 ha2 HSp.out (.inl (by omega))
            go_wp2
            go_round
            case rel => exact ⟨E + 1, by go_num, HG⟩
            case measure => simp [intOf]; omega
    · have hlt' : ¬ (f : Int) < (n : Int) := by omega
      have hf5 := fz 5
      have HG : Hid ((S zs f0 n).isSome = true) := SInv.stop HL.out HS.out (by omega)
      go_wp2
      go_end0
      refine ⟨rfl, s0, e0, i0, a0, true, ?_, bel_put (Below.refl B w) 5 _, .inl ⟨HG.out, rfl, rfl, rfl, rfl, rfl⟩⟩
      exact ⟨cell_put c0 (by decide), cell_put c1 (by decide), cell_put c2 (by decide), cell_put c3 (by decide), cell_put c4 (by decide), cell_same c5, fun j => (World.frozen?_setCell _ _ _ _).trans (fz j)⟩
end Go.Proofs.Qxb6601160aMods.Seek
