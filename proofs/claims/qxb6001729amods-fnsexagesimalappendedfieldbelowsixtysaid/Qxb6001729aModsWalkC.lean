/-
  The law's own walk. By a prover of this seat.
-/
import Derived.Test.Qxb6001729aModsWalkB
namespace Go.Proofs.Qxb6001729aMods.Sexa
open Go.ChangeShapes Go.WideShapes Go.ChangeAt Go.RowKit

theorem bytes_yes (x : Option Addr) (n c : Nat) (a b : Int) (w : World) (hn : n ≤ 1048576) : Calls Trym.prog 22 #[.slice x n c, .int .u8 a, .int .u8 b] w fun e w' => e = .returned (.bool true) ∧ w = w' := by
  go_enter Trym.func22, Trym.ntmps22
  go_wp2
  go_ret
  exact ⟨rfl, rfl⟩

set_option maxRecDepth 100000 in
set_option maxHeartbeats 400000 in
theorem law_long (x : Option Addr) (n c : Nat) (a b : Int) (w : World) (hn : 1048576 < n) (hm : n ≤ maxLen) : Calls Trym.prog 8 #[.slice x n c, .int .u8 a, .int .u8 b] w fun e w' => e = .returned (.bool true) ∧ Below w.heap.size w w' := by
  unfold maxLen at hm
  go_enter Trym.func8, Trym.ntmps8
  go_wp2
  go_ret
  exact ⟨rfl, Below.refl _ _⟩

/-- what the law's own loop gathers -/
def ScanRel (zs : List Int) (n k : Nat) (ad : Bool) : Prop := ad = (decide (0 < n) && (zs.take k).all digB) ∧ ∀ c ∈ zs.take k, c ≠ 46
theorem take_at (zs : List Int) (n k : Nat) (hl : zs.length = n) (h : k < n) : zs.take (k + 1) = zs.take k ++ [zs[k]?.getD 0] := by
  have hk : k < zs.length := by omega
  rw [List.take_succ_eq_append_getElem hk]
  simp [List.getElem?_eq_getElem hk]
theorem ScanRel.step {zs : List Int} {n k : Nat} {ad : Bool} (hl : zs.length = n) (hk : k < n) (h : ScanRel zs n k ad) (h46 : (zs[k]?.getD 0 == 46) = false) (ad' : Bool) (hd : ad' = (ad && digB (zs[k]?.getD 0))) : ScanRel zs n (k + 1) ad' := by
  unfold ScanRel
  rw [take_at zs n k hl hk]
  refine ⟨?_, fun c hc => ?_⟩
  · rw [hd, h.1]; simp [Bool.and_assoc]
  · rcases List.mem_append.1 hc with hc | hc
    · exact h.2 c hc
    · simp at hc; subst hc; simpa using h46
theorem ScanRel.fin {zs : List Int} {n : Nat} {ad : Bool} (hl : zs.length = n) (h : ScanRel zs n n ad) : (∀ c ∈ zs, c ≠ 46) ∧ (ad = true → zs ≠ [] ∧ ∀ c ∈ zs, digB c = true) := by
  unfold ScanRel at h
  rw [List.take_of_length_le (by omega)] at h
  refine ⟨h.2, fun e => ?_⟩
  rw [h.1, Bool.and_eq_true] at e
  refine ⟨fun e' => ?_, fun c hc => List.all_eq_true.1 e.2 c hc⟩
  subst e'
  simp at hl e
  omega

theorem tail_range (zs t : List Int) (hz : ∀ c ∈ zs, 0 ≤ c ∧ c ≤ 255) (ht : ∀ c ∈ t, 0 ≤ c ∧ c ≤ 255) : ∀ c ∈ zs ++ t, 0 ≤ c ∧ c ≤ 255 := by
  intro c hc
  rcases List.mem_append.1 hc with hc | hc
  · exact hz c hc
  · exact ht c hc

theorem low_dig {a : Int} (h : lowB a = true) : digB a = true := by simp [lowB, digB] at *; omega
theorem both_of (zs : List Int) (a b : Int) (hdot : ∀ c ∈ zs, c ≠ 46) (h : (zs ≠ [] ∧ ∀ c ∈ zs, digB c = true) ∨ sexa zs = true) : sexa (zs ++ [58, a]) = digB a ∧ sexa (zs ++ [58, a, b]) = wantTwo a b :=
  ⟨(sexa_app zs [a] hdot h).trans (fin_one a), (sexa_app zs [a, b] hdot h).trans (fin_two a b)⟩

set_option maxRecDepth 100000 in
set_option maxHeartbeats 1600000 in
theorem law_some (x : Addr) (n c : Nat) (zs : List Int) (hz : Hid (∀ c ∈ zs, 0 ≤ c ∧ c ≤ 255)) (a b : Int) (ha0 : 0 ≤ a) (ha1 : a ≤ 255) (hb0 : 0 ≤ b) (hb1 : b ≤ 255) (w : World) (hn : n ≤ 1048576) (HL : Hid (zs.length = n))
    (hx : Hid (0 < n → ∃ b off, x = ⟨b, off, none⟩)) (hcell : ∀ i, i < n → w.cell? (x.add i) = some (.int .u8 (zs.getD i 0))) :
    Calls Trym.prog 8 #[.slice (some x) n c, .int .u8 a, .int .u8 b] w fun e w' => e = .returned (.bool true) ∧ Below w.heap.size w w' := by
  have Hcell : Hid _ := hcell
  clear hcell
  have HR1 : Hid (∀ c ∈ zs ++ [58, a], 0 ≤ c ∧ c ≤ 255) := tail_range zs _ hz.out (by intro c hc; simp at hc; omega)
  have HR2 : Hid (∀ c ∈ zs ++ [58, a, b], 0 ≤ c ∧ c ≤ 255) := tail_range zs _ hz.out (by intro c hc; simp at hc; omega)
  have HL1 : Hid ((zs ++ [58, a]).length = n + 2) := by show _ = _; rw [List.length_append, HL.out]; rfl
  have HL2 : Hid ((zs ++ [58, a, b]).length = n + 3) := by show _ = _; rw [List.length_append, HL.out]; rfl
  go_enter Trym.func8, Trym.ntmps8
  go_wp2_with fail
  refine (bytes_yes _ n c _ _ _ hn).mono ?_
  rintro e w' ⟨rfl, rfl⟩
  go_wp2_with fail
  refine (clone_any x n c zs _ hn hx Hcell.out).mono ?_
  rintro e w1 ⟨rfl, hrow, hb1', hs1⟩
  have HRow : Hid _ := hrow
  clear hrow Hcell hx
  go_wp2_with fail
  go_loop [7, 8] (fun d i => ∃ (k : Nat) (ad : Bool), i = .int .i64 k ∧ d = .bool ad ∧ k ≤ n ∧ Hid (ScanRel zs n k ad)) (fun _ i => n - (intOf i).toNat)
  case atStart => exact ⟨0, decide (0 < n), rfl, by simp, Nat.zero_le _, by simp [ScanRel, Hid]⟩
  case round =>
    obtain ⟨k, ad, rfl, rfl, hk, HS⟩ := hrel
    by_cases hlt : k < n
    · have hlt' : (k : Int) < (n : Int) := by omega
      have hc := HRow.out k hlt
      by_cases h46 : (zs[k]?.getD 0 == 46) = true
      · go_wp2
        go_ret
        exact ⟨rfl, hb1'⟩
      · have h46' : (zs[k]?.getD 0 == 46) = false := by simpa using h46
        clear h46
        cases hd : digB (zs[k]?.getD 0)
        · have HG : Hid (ScanRel zs n (k + 1) false) := ScanRel.step HL.out hlt HS.out h46' false (by rw [hd]; simp)
          go_wp2_with (go_at_call 23; refine (zzIsDigit_any _ _).mono ?_; rintro e w' ⟨rfl, rfl⟩)
          go_round
          case rel => exact ⟨k + 1, false, by go_num, rfl, by omega, HG⟩
          case measure => simp [intOf]; omega
        · have HG : Hid (ScanRel zs n (k + 1) ad) := ScanRel.step HL.out hlt HS.out h46' ad (by rw [hd]; simp)
          go_wp2_with (go_at_call 23; refine (zzIsDigit_any _ _).mono ?_; rintro e w' ⟨rfl, rfl⟩)
          go_round
          case rel => exact ⟨k + 1, ad, by go_num, rfl, by omega, HG⟩
          case measure => simp [intOf]; omega
    · have hlt' : ¬ (k : Int) < (n : Int) := by omega
      obtain rfl : k = n := by omega
      have HF : Hid _ := ScanRel.fin HL.out HS.out
      clear HS
      have hkk : ¬ ((1048576 : Int) < (k : Int)) := by omega
      go_upto_region 14 with fail
      go_cut [49] (fun cc wx => ∃ t : Bool, cc = .bool t ∧ Hid (t = false → sexa (zs ++ [58, a]) = digB a ∧ sexa (zs ++ [58, a, b]) = wantTwo a b) ∧ w1 = wx)
      case first =>
        cases ad
        · cases hsx : sexa zs
          · go_wp2_with (go_at_call 18; refine (shim_all w.heap.size k k zs hz _ HL (by omega) HRow.out).mono ?_; rintro e w' ⟨rfl, rfl⟩)
            go_meet
            exact ⟨true, rfl, (fun e => by cases e), rfl⟩
          · have HG : Hid _ := both_of zs a b HF.out.1 (.inr hsx)
            go_wp2_with (go_at_call 18; refine (shim_all w.heap.size k k zs hz _ HL (by omega) HRow.out).mono ?_; rintro e w' ⟨rfl, rfl⟩)
            go_meet
            exact ⟨false, rfl, fun _ => HG.out, rfl⟩
        · have HG : Hid _ := both_of zs a b HF.out.1 (.inl (HF.out.2 rfl))
          go_wp2
          go_meet
          exact ⟨false, rfl, fun _ => HG.out, rfl⟩
      case rest =>
        obtain ⟨t, rfl, HT, rfl⟩ := hcut
        cases t
        · have HG : Hid _ := HT.out rfl
          clear HT HF
          go_wp2_with fail
          refine (tail_two w.heap.size k k zs a _ hn HL hs1 HRow.out).mono ?_
          rintro e w2 ⟨rfl, hrow2, hb2, hs2⟩
          have HRow2 : Hid _ := hrow2
          have HRowB : Hid _ := Row.below HRow.out hs1 hb2
          have HB2 : Below w.heap.size w w2 := hb1'.trans (hb2.mono (by omega))
          clear hrow2 hb2
          go_wp2_with fail
          refine (tail_three w.heap.size k k zs a b _ hn HL (by omega) HRowB.out).mono ?_
          rintro e w3 ⟨rfl, hrow3, hb3, hs3⟩
          have HRow3 : Hid _ := hrow3
          have HRowC : Hid _ := Row.below HRow2.out hs2 hb3
          have HB3 : Below w.heap.size w w3 := HB2.trans (hb3.mono (by omega))
          clear hrow3 hb3 HB2 HRow2 HRowB
          go_upto_region 19 with (go_at_call 23; refine (zzIsDigit_any _ _).mono ?_; rintro e w' ⟨rfl, rfl⟩)
          go_cut [11, 12] (fun c1 cc wx => c1 = .bool (digB a) ∧ cc = .bool (wantTwo a b) ∧ w3 = wx)
          case first =>
            have HW : Hid (wantTwo a b = ((lowB a && digB b) || (digB a && b == 46))) := rfl
            cases h46 : (b == 46)
            all_goals
              rcases five a b with ⟨p1, p2, d, e1⟩ | ⟨p1, p2, d, e1, e2⟩ | ⟨p1, p2, d, e1⟩ | ⟨p1, d, e1⟩ | ⟨p1, p2, d, e1⟩
              all_goals
                go_wp2_with (go_at_call 23; refine (zzIsDigit_any _ _).mono ?_; rintro e w' ⟨rfl, rfl⟩)
                go_meet
                exact ⟨congrArg Value.bool (by first | rfl | simp [*] | exact (low_dig e1).symm), congrArg Value.bool (by rw [HW.out]; first | (simp [*]; done) | (rw [low_dig e1]; simp [*])), rfl⟩
          case rest =>
            obtain ⟨rfl, rfl, rfl⟩ := hcut
            go_wp2_with fail
            refine (shim_all w1.heap.size (k + 2) (k + 2) (zs ++ [58, a]) HR1 _ HL1 (by omega) HRowC.out).mono ?_
            rintro e w' ⟨rfl, rfl⟩
            rw [HG.out.1]
            go_wp2_with fail
            refine (shim_all w2.heap.size (k + 3) (k + 3) (zs ++ [58, a, b]) HR2 _ HL2 (by omega) HRow3.out).mono ?_
            rintro e w' ⟨rfl, rfl⟩
            rw [HG.out.2]
            go_wp2
            go_ret
            exact ⟨rfl, HB3⟩
        · go_wp2
          go_ret
          exact ⟨rfl, hb1'⟩

set_option maxRecDepth 100000 in
set_option maxHeartbeats 800000 in
theorem law_nil (a b : Int) (w : World) : Calls Trym.prog 8 #[.slice none 0 0, .int .u8 a, .int .u8 b] w fun e w' => e = .returned (.bool true) ∧ Below w.heap.size w w' := by
  go_enter Trym.func8, Trym.ntmps8
  go_wp2_with fail
  refine (bytes_yes _ 0 0 _ _ _ (by omega)).mono ?_
  rintro e w' ⟨rfl, rfl⟩
  go_wp2_with fail
  refine (clone_nil _).mono ?_
  rintro e w' ⟨rfl, rfl⟩
  go_wp2_with fail
  go_loop [7, 8] (fun d i => i = .int .i64 0 ∧ d = .bool false) (fun _ _ => 0)
  case atStart => exact ⟨rfl, rfl⟩
  case round =>
    obtain ⟨rfl, rfl⟩ := hrel
    go_wp2_with (go_at_call 18; refine (shim_nil _).mono ?_; rintro e w' ⟨rfl, rfl⟩)
    go_ret
    exact ⟨rfl, Below.refl _ _⟩
end Go.Proofs.Qxb6001729aMods.Sexa
