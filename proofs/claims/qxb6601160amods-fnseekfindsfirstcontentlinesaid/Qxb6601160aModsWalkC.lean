/-
  The law's own walk. By a prover of this seat.
-/
import Derived.Test.Qxb6601160aModsWalkB
namespace Go.Proofs.Qxb6601160aMods.Seek
open Go.ChangeShapes Go.WideShapes Go.ChangeAt Go.RowKit

theorem bytes_yes (x : Option Addr) (n c : Nat) (s e i a : Int) (eof : Bool) (f : Int) (w : World) (hn : n ≤ 1048576) : Calls Trym.prog 7 #[.slice x n c, .int .i64 s, .int .i64 e, .int .i64 i, .int .i64 a, .bool eof, .int .i64 f] w fun r w' => r = .returned (.bool true) ∧ w = w' := by
  go_enter Trym.func7, Trym.ntmps7
  go_wp2
  go_ret
  exact ⟨rfl, rfl⟩

set_option maxRecDepth 100000 in
set_option maxHeartbeats 400000 in
theorem law_long (x : Option Addr) (n c : Nat) (s e i a : Int) (eof : Bool) (f : Int) (w : World) (hn : 1048576 < n) (hm : n ≤ maxLen) : Calls Trym.prog 3 #[.slice x n c, .int .i64 s, .int .i64 e, .int .i64 i, .int .i64 a, .bool eof, .int .i64 f] w fun r w' => r = .returned (.bool true) ∧ Below w.heap.size w w' := by
  unfold maxLen at hm
  go_enter Trym.func3, Trym.ntmps3
  go_wp2
  go_ret
  exact ⟨rfl, Below.refl _ _⟩

set_option maxRecDepth 100000 in
set_option maxHeartbeats 400000 in
theorem law_neg (x : Option Addr) (n c : Nat) (s e i a : Int) (eof : Bool) (f : Int) (w : World) (hn : n ≤ 1048576) (hf : f < 0) : Calls Trym.prog 3 #[.slice x n c, .int .i64 s, .int .i64 e, .int .i64 i, .int .i64 a, .bool eof, .int .i64 f] w fun r w' => r = .returned (.bool true) ∧ Below w.heap.size w w' := by
  go_enter Trym.func3, Trym.ntmps3
  go_wp2
  go_ret
  exact ⟨rfl, Below.refl _ _⟩

/-- what the clone hands back: nil, or the new row -/
def Cloned (n : Nat) (zs : List Int) (w : World) (r : Ending) (w1 : World) : Prop :=
  ∃ (y : Option Addr) (bb : Nat), r = .returned (.slice y n n) ∧ Hid (0 < n → y = some ⟨bb, 0, none⟩) ∧ (0 < n → bb < w1.heap.size) ∧ Row bb n zs w1 ∧ Below w.heap.size w w1

set_option maxRecDepth 100000 in
set_option maxHeartbeats 1600000 in
theorem law_core (x : Option Addr) (n c : Nat) (zs : List Int) (hz : Hid (∀ c ∈ zs, 0 ≤ c ∧ c ≤ 255)) (HL : Hid (zs.length = n)) (s0 e0 i0 a0 : Int) (eof0 : Bool) (f0 : Nat) (w : World) (hn : n ≤ 1048576)
    (hclone : Hid (Calls Trym.prog 8 #[.slice x n c] w (Cloned n zs w))) :
    Calls Trym.prog 3 #[.slice x n c, .int .i64 s0, .int .i64 e0, .int .i64 i0, .int .i64 a0, .bool eof0, .int .i64 f0] w fun r w' => r = .returned (.bool true) ∧ Below w.heap.size w w' := by
  have hf0 : ¬ ((f0 : Int) < 0) := by omega
  have hnn : ¬ ((1048576 : Int) < (n : Int)) := by omega
  go_enter Trym.func3, Trym.ntmps3
  go_wp2_with fail
  refine (bytes_yes _ n c _ _ _ _ _ _ _ hn).mono ?_
  rintro r w' ⟨rfl, rfl⟩
  go_wp2_with fail
  refine hclone.out.mono ?_
  rintro r w1 ⟨y, bb, rfl, hy, hB, hrow, hb1⟩
  have HRow : Hid _ := hrow
  clear hrow hclone
  go_wp2_with fail
  refine (zzseek_any bb n y hy zs HL hz f0 hn s0 e0 i0 a0 eof0 w1 hB HRow.out).mono ?_
  rintro r w2 ⟨s, e, i, a, eof, rfl, hb2, ho⟩
  have HRow2 : Hid _ := Row.below HRow.out hB hb2
  have HB : Hid (Below w.heap.size w w2) := hb1.trans (hb2.mono hb1.size)
  clear HRow hB hb1 hb2
  rcases ho with ⟨hS, rfl, rfl, rfl, rfl, rfl⟩ | ⟨f, E, p, HF, rfl, rfl, rfl, rfl, rfl⟩
  · go_wp2_with fail
    refine (blank_any bb n n y hy zs HL f0 n hn (Nat.le_refl _) w2 HRow2.out).mono ?_
    rintro r w' ⟨rfl, rfl⟩
    rw [hS]
    clear hS
    go_wp2
    go_ret
    exact ⟨rfl, HB.out⟩
  · have hSn : (S zs f0 n).isSome = false := by rw [HF.p6]; rfl
    have hSf : (S zs f0 f).isSome = true := by rw [HF.p5]; rfl
    have HSf : Hid _ := hSf
    have h0 := HF.p0
    have h1 := HF.p1
    have h2 := HF.p2
    have h3 := HF.p3
    have HG : Hid _ := HF
    clear HF hSf
    obtain rfl := hy.out (by omega)
    clear hy
    have t1 : ¬ ((f : Int) < (f0 : Int)) := by omega
    have t2 : ¬ ((n : Int) ≤ (f : Int)) := by omega
    go_wp2_with fail
    refine (blank_any bb n n _ (fun _ => rfl) zs HL f0 n hn (Nat.le_refl _) w2 HRow2.out).mono ?_
    rintro r w' ⟨rfl, rfl⟩
    rw [hSn]
    clear hSn
    go_upto_region 15 with fail
    go_cut [100] (fun cc wx => cc = .bool false ∧ w2 = wx)
    case first =>
      by_cases hff : f0 < f
      · obtain ⟨q, rfl⟩ : ∃ q, f = q + 1 := ⟨f - 1, by omega⟩
        have h10 : zs[q]?.getD 0 = 10 := HG.out.p4 hff
        have hff' : (f0 : Int) < ((q + 1 : Nat) : Int) := by omega
        have hff2 : (f0 : Int) < (q : Int) + 1 := by omega
        have hc := HRow2.out q (by omega)
        have hb10 : (zs[q]?.getD 0 != 10) = false := by simpa using h10
        have hqn : (q : Int) < (n : Int) := by omega
        clear h10
        go_wp2
        go_meet
        exact ⟨rfl, rfl⟩
      · have hff' : ¬ ((f0 : Int) < (f : Int)) := by omega
        have hfd : decide ((f0 : Int) < (f : Int)) = false := by simpa using hff'
        go_wp2
        go_meet
        exact ⟨rfl, rfl⟩
    case rest =>
      obtain ⟨rfl, rfl⟩ := hcut
      go_wp2_with fail
      refine (blank_any bb n n _ (fun _ => rfl) zs HL f0 f hn (by omega) w2 HRow2.out).mono ?_
      rintro r w' ⟨rfl, rfl⟩
      rw [HSf.out]
      have t3 : ¬ ((n : Int) < (E : Int)) := by omega
      have t4 : ¬ ((p : Int) < (f : Int)) := by omega
      have t5 : ¬ ((E : Int) ≤ (p : Int)) := by omega
      have hpn : (p : Int) < (n : Int) := by omega
      have hcp := HRow2.out p (by omega)
      have hp32 : (zs[p]?.getD 0 == 32) = false := by simpa using HG.out.p8
      have hp35 : (zs[p]?.getD 0 == 35) = false := by simpa using HG.out.p9
      go_wp2_with fail
      go_loop [20] (fun v => ∃ k : Nat, v = .int .i64 k ∧ f ≤ k ∧ k ≤ p) (fun v => p - (intOf v).toNat)
      case atStart => exact ⟨f, rfl, Nat.le_refl _, h1⟩
      case round =>
        obtain ⟨k, rfl, hk1, hk2⟩ := hrel
        by_cases hkp : k < p
        · have hkp' : (k : Int) < (p : Int) := by omega
          have hkn : (k : Int) < (n : Int) := by omega
          have hck := HRow2.out k (by omega)
          have hk32 : (zs[k]?.getD 0 != 32) = false := by simpa using HG.out.p7 k hk1 hkp
          go_wp2
          go_round
          case rel => exact ⟨k + 1, by go_num, by omega, by omega⟩
          case measure => simp [intOf]; omega
        · have hkp' : ¬ (k : Int) < (p : Int) := by omega
          go_wp2_with fail
          go_loop [21] (fun v => ∃ j : Nat, v = .int .i64 j ∧ f ≤ j ∧ j ≤ E) (fun v => E - (intOf v).toNat)
          case atStart => exact ⟨f, rfl, Nat.le_refl _, by omega⟩
          case round =>
            obtain ⟨j, rfl, hj1, hj2⟩ := hrel
            by_cases hjE : j < E
            · have hjE' : (j : Int) < (E : Int) := by omega
              have hjn : (j : Int) < (n : Int) := by omega
              have hcj := HRow2.out j (by omega)
              have hj10 : (zs[j]?.getD 0 == 10) = false := by simpa using HG.out.p10 j hj1 hjE
              go_wp2
              go_round
              case rel => exact ⟨j + 1, by go_num, by omega, by omega⟩
              case measure => simp [intOf]; omega
            · have hjE' : ¬ (j : Int) < (E : Int) := by omega
              by_cases hEn : E = n
              · have hEb : ((E : Int) == (n : Int)) = true := by simp; omega
                clear hEn
                go_wp2
                go_ret
                exact ⟨rfl, HB.out⟩
              · have hEb : ((E : Int) == (n : Int)) = false := by simp; omega
                have hEl : (E : Int) < (n : Int) := by omega
                have hcE := HRow2.out E (by omega)
                have hE10 : (zs[E]?.getD 0 == 10) = true := by simpa using HG.out.p11.resolve_left hEn
                clear hEn
                go_wp2
                go_ret
                exact ⟨rfl, HB.out⟩

theorem law_some (x : Addr) (n c : Nat) (zs : List Int) (hz : ∀ c ∈ zs, 0 ≤ c ∧ c ≤ 255) (HL : zs.length = n) (s0 e0 i0 a0 : Int) (eof0 : Bool) (f0 : Nat) (w : World) (hn : n ≤ 1048576) (hx : 0 < n → ∃ b off, x = ⟨b, off, none⟩) (hcell : ∀ i, i < n → w.cell? (x.add i) = some (.int .u8 (zs.getD i 0))) :
    Calls Trym.prog 3 #[.slice (some x) n c, .int .i64 s0, .int .i64 e0, .int .i64 i0, .int .i64 a0, .bool eof0, .int .i64 f0] w fun r w' => r = .returned (.bool true) ∧ Below w.heap.size w w' :=
  law_core (some x) n c zs hz HL s0 e0 i0 a0 eof0 f0 w hn ((clone_any x n c zs w hn hx hcell).mono fun _ _ h => ⟨_, w.heap.size, h.1, fun _ => rfl, fun _ => h.2.2.2, h.2.1, h.2.2.1⟩)
theorem law_nil (s0 e0 i0 a0 : Int) (eof0 : Bool) (f0 : Nat) (w : World) :
    Calls Trym.prog 3 #[.slice none 0 0, .int .i64 s0, .int .i64 e0, .int .i64 i0, .int .i64 a0, .bool eof0, .int .i64 f0] w fun r w' => r = .returned (.bool true) ∧ Below w.heap.size w w' :=
  law_core none 0 0 [] (fun c h => by cases h) rfl s0 e0 i0 a0 eof0 f0 w (by omega)
    ((clone_nil w).mono fun _ _ h => ⟨none, 0, h.1, fun h0 => absurd h0 (by omega), fun h0 => absurd h0 (by omega), fun i hi => absurd hi (by omega), h.2 ▸ Below.refl _ _⟩)
end Go.Proofs.Qxb6601160aMods.Seek
