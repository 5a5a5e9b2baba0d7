/-
  The walk of unescapePath. By a prover of this seat.
-/
import Derived.Test.Qxb6600016aModsOwn
import Derived.Test.Qxb6600016aModsShelf
import Derived.Lib.AppendStr
import Derived.Lib.IndexLaws
import Derived.Lib.IndexBytes
import Derived.RegionTactic
import Derived.Deep.QuietTactic
import Derived.BigQuiet
import Derived.Deep.RegionHeld3
import Derived.Deep.RegionLaw
namespace Go.Proofs.Qxb6600016aMods.Esc
open Go.ChangeShapes Go.WideShapes Go.ChangeAt Go.RowKit

theorem index_at (t : ByteArray) (f : Int) (w : World) (h : Lib.indexByte t.data.toList 37 = f) : Calls Trym.prog 43 #[.string t, .int .u8 37] w fun e w' => e = .returned (.int .i64 f) ∧ w' = w := by
  subst h
  exact Trym.strings_IndexByte t 37 w

theorem nums_getElem? (t : ByteArray) (k : Nat) : (nums t)[k]? = (t.data.toList[k]?).map fun b => (b.toNat : Int) := by simp [nums]

theorem no_pct (t : ByteArray) (out : List Int) (h : Lib.indexByte t.data.toList 37 = -1) (hd : dec (nums t) = some out) : strOfNums out = t := by
  have hn := Lib.indexByte_none h
  have hno : ∀ c ∈ nums t, c ≠ 37 := by
    intro c hc e
    obtain ⟨k, hk⟩ := List.mem_iff_getElem?.1 hc
    rw [nums_getElem?] at hk
    obtain ⟨b, hb, rfl⟩ := Option.map_eq_some_iff.1 hk
    refine hn k ?_
    rw [hb]
    congr 1
    apply UInt8.toNat_inj.1
    show b.toNat = 37
    omega
  have := dec_plain (nums t) [] hno
  rw [List.append_nil, hd] at this
  simp [dec] at this
  rw [this, strOfNums_nums]

/-- what stands behind the first '%' -/
theorem first_pct (t : ByteArray) (out : List Int) (f : Nat) (h : Lib.indexByte t.data.toList 37 = f) (hd : dec (nums t) = some out) :
    f < t.size ∧ ∃ rest, dec ((nums t).drop f) = some rest ∧ out = (nums t).take f ++ rest := by
  obtain ⟨h1, h2⟩ := Lib.indexByte_some h
  have hf : f < t.size := (List.getElem?_eq_some_iff.1 h1).1
  refine ⟨hf, ?_⟩
  have hno : ∀ c ∈ (nums t).take f, c ≠ 37 := by
    intro c hc e
    obtain ⟨k, hk⟩ := List.mem_iff_getElem?.1 hc
    have hkf : k < f := by
      have := (List.getElem?_eq_some_iff.1 hk).1
      simp at this; omega
    rw [List.getElem?_take_of_lt hkf, nums_getElem?] at hk
    obtain ⟨b, hb, rfl⟩ := Option.map_eq_some_iff.1 hk
    refine h2 k hkf ?_
    rw [hb]
    congr 1
    apply UInt8.toNat_inj.1
    show b.toNat = 37
    omega
  have := dec_plain ((nums t).take f) ((nums t).drop f) hno
  rw [List.take_append_drop, hd] at this
  obtain ⟨rest, hr, ho⟩ := Option.map_eq_some_iff.1 this.symm
  exact ⟨rest, hr, ho.symm⟩

theorem ret_pair {a b : List Int} (h : a = b) : Ending.returned (.tuple #[.string (strOfNums a), .bool true]) = .returned (.tuple #[.string (strOfNums b), .bool true]) := by rw [h]

theorem app_step {W : World} {ops : Array Oper} {o : Oper} {a : Act} {K : Act → World → Prop} {Q : Exit → Act → World → Prop} {E : Prop} (hgd : o.guard = none) (s x : Operand)
    (ho : o.op = .call { callee := .builtin .append, args := #[s, x], argTypes := #[30, 30] }) (base : Nat) (v : Value) (L : List Int) (hs : a.eval s = v) (hown : Has base W v L)
    (ad : Addr) (c : Nat) (z : Int) (hx : a.eval x = .slice (some ad) 1 c) (hz : W.cell? ad = some (.int .u8 z)) (hL : L.length ≤ 1000000000) (hbase : base ≤ W.heap.size)
    (h : ∀ v' w', Has base w' v' (L ++ [z]) → Below base W w' → K (a.put o.dst v') w') : if Region.wanted o (yielded ops a.tmps) = true then Oper.wp Trym.prog o a W K Q else E := by
  have hw : Region.wanted o (yielded ops a.tmps) = true := by simp [Region.wanted, hgd]
  rw [if_pos hw]
  exact app_wp s x ho base v L hs hown ad c z hx hz hL hbase h

theorem wrap_id {n : Int} (h0 : 0 ≤ n) (h1 : n ≤ 1000000000) : IntKind.i64.wrap n = n := by
  unfold IntKind.wrap; simp [IntKind.bits, IntKind.signed]; omega

theorem or_nat : ∀ x : Nat, x < 16 → ∀ y : Nat, y < 16 → bits BinOp.or IntKind.u8 (IntKind.u8.wrap ((x : Int) * 16)) (y : Int) = (x : Int) * 16 + (y : Int) := by decide +kernel
theorem or_eq (x y : Int) (h0 : 0 ≤ x) (h1 : x ≤ 15) (h2 : 0 ≤ y) (h3 : y ≤ 15) : bits BinOp.or IntKind.u8 (IntKind.u8.wrap (x * 16)) y = x * 16 + y := by
  obtain ⟨a, rfl⟩ := Int.eq_ofNat_of_zero_le h0
  obtain ⟨b, rfl⟩ := Int.eq_ofNat_of_zero_le h2
  exact or_nat a (by omega) b (by omega)
theorem unhex_range {z : Int} (h : isHexB z = true) : 0 ≤ unhexI z ∧ unhexI z ≤ 15 := by
  rcases hex_cases h with h | h | h <;> (unfold unhexI; split <;> (try split) <;> omega)
theorem or_hex {a b : Int} (ha : isHexB a = true) (hb : isHexB b = true) : bits BinOp.or IntKind.u8 (IntKind.u8.wrap (unhexI a * 16)) (unhexI b) = unhexI a * 16 + unhexI b :=
  or_eq _ _ (unhex_range ha).1 (unhex_range ha).2 (unhex_range hb).1 (unhex_range hb).2

theorem cons_app (pre o : List Int) (z : Int) : pre ++ z :: o = pre ++ [z] ++ o := by simp

/-- the round's relation -/
def URel (t : ByteArray) (out : List Int) (base : Nat) (w : World) (v : Value) (wr : World) (k : Nat) : Prop :=
  ∃ pre rest, k ≤ t.size ∧ Has base wr v pre ∧ dec ((nums t).drop k) = some rest ∧ out = pre ++ rest ∧ pre.length ≤ k ∧ Below base w wr

theorem strCells_take (t : ByteArray) (f : Nat) (hf : f ≤ t.size) : Lib.strCells (t.extract 0 f) = ((nums t).take f).map (Value.int .u8) ∧ (t.extract 0 f).size = f ∧ ((nums t).take f).length = f := by
  have hl : ((nums t).take f).length = f := by rw [List.length_take, nums_length]; omega
  refine ⟨?_, ?_, hl⟩
  · unfold Lib.strCells nums
    rw [Lib.extract_data]
    simp only [Nat.sub_zero, List.drop_zero, ← List.map_take, List.map_map]
    rfl
  · simp; omega

set_option maxHeartbeats 800000 in
theorem unesc_any (t : ByteArray) (out : List Int) (w : World) (ht : t.size ≤ 800000) (hd : dec (nums t) = some out) :
    Calls Trym.prog 36 #[.string t] w fun e w' => e = .returned (.tuple #[.string (strOfNums out), .bool true]) ∧ Below w.heap.size w w' := by
  by_cases hm : Lib.indexByte t.data.toList 37 = -1
  · rw [no_pct t out hm hd]
    have HM : Hid _ := hm
    clear hm hd
    go_enter Trym.func36, Trym.ntmps36
    go_wp2_with fail
    refine (index_at t (-1) _ HM.out).mono ?_
    rintro e w2 ⟨rfl, rfl⟩
    go_wp2
    go_ret2
    exact ⟨rfl, Below.refl _ _⟩
  · have hge := Lib.indexByte_ge t.data.toList 37
    obtain ⟨f, hf⟩ := Int.eq_ofNat_of_zero_le (show 0 ≤ Lib.indexByte t.data.toList 37 by omega)
    obtain ⟨hft, rest, hr, ho⟩ := first_pct t out f hf hd
    obtain ⟨hsc1, hsc2, hsc3⟩ := strCells_take t f (by omega)
    have HF : Hid _ := hf
    have HR : Hid _ := hr
    have HO : Hid _ := ho
    have HC : Hid _ := hsc1
    have HZ : Hid _ := hsc2
    have HL : Hid _ := hsc3
    clear hm hge hf hd hr ho hsc1 hsc2 hsc3
    obtain ⟨i0, hi, hz0, hz1, hz2⟩ := info_parts info5
    go_enter Trym.func36, Trym.ntmps36
    go_wp2_with fail
    refine (index_at t f _ HF.out).mono ?_
    rintro e w2 ⟨rfl, rfl⟩
    have hnn : ¬ ((f : Int) < 0) := by omega
    go_wp2_with (first
      | (at_make; refine wpList_make_own _ rfl _ _ 30 rfl w2.heap.size 5 i0 (.int .u8 0) 1 Trym.underlying30 hi hz0 hz1 .i64 .i64 _ t.size rfl rfl (by omega) (by rw [hz2]; omega) (by unfold maxLen; omega) (Nat.le_refl _) ?_; intro w1 hown hgrow)
      | (at_builtin; refine Lib.wpList_append_own_string _ rfl (.tmp 15) (.tmp 18) 30 9 rfl w2.heap.size 5 i0 Trym.underlying30 Trym.underlying9 hi hz0 hz1 hz2 (.slice (some ⟨w2.heap.size, 0, none⟩) 0 t.size) 0 [] rfl hown (t.extract 0 f) rfl (by rw [HZ.out]; unfold maxLen; omega) (by rw [HZ.out]; omega) hgrow.size ?_; intro v3 w3 hown3 hgrow3 hq; clear hq))
    have hb1 : Below w2.heap.size w2 w1 := (Below.refl _ _).grown hgrow (Nat.le_refl _) (fun k h => by cases h)
    have hb3 : Below w2.heap.size w2 w3 := hb1.grown hgrow3 hgrow.size (fun k h => by simp [Value.ownBlock] at h; omega)
    have hH : Has w2.heap.size w3 v3 ((nums t).take f) := by
      rw [HC.out, HZ.out] at hown3
      unfold Has
      rw [HL.out]
      simpa using hown3
    have hU : URel t out w2.heap.size w2 v3 w3 f := ⟨_, _, by omega, hH, HR.out, HO.out, by rw [HL.out]; omega, hb3⟩
    clear hH hb1 hb3 hown hown3 hgrow hgrow3 hi hz0 hz1 hz2 HC HZ HL HR HO HF
    go_loopw [5, 6] (fun v i wr => ∃ k : Nat, i = .int .i64 k ∧ URel t out w2.heap.size w2 v wr k) (fun _ i _ => t.size - (intOf i).toNat)
    case atStart => exact ⟨f, rfl, hU⟩
    case round =>
      clear hU
      obtain ⟨k, rfl, pre, rest, hk, hown, hr, ho, hpl, hbel⟩ := hrel
      have hws := hbel.size
      by_cases hlt : k < t.size
      · rw [nums_drop t k hlt] at hr
        have hc := t[k].toNat_lt
        by_cases hp : (t[k].toNat : Int) = 37
        · rw [hp] at hr
          obtain ⟨a, b, r', o', hrr, ha, hb, hd', hrest⟩ := dec_head _ _ hr
          have hk2 : k + 2 < t.size := by
            have := congrArg List.length hrr
            rw [List.length_drop, nums_length] at this
            simp at this; omega
          rw [nums_drop t (k + 1) (by omega), nums_drop t (k + 1 + 1) (by omega)] at hrr
          simp only [List.cons.injEq] at hrr
          obtain ⟨rfl, rfl, rfl⟩ := hrr
          have HO : Hid _ := ho
          have HD : Hid _ := hd'
          have HE : Hid _ := hrest
          have HA : Hid _ := ha
          have HB : Hid (isHexB ((t[k + 2]'hk2).toNat : Int) = true) := hb
          have hpt : ((t[k].toNat : Int) != 37) = false := by simp; omega
          have hkk : ¬ ((t.size : Int) ≤ (k : Int) + 2) := by omega
          have hw1 : IntKind.i64.wrap ((k : Int) + 1) = (k : Int) + 1 := wrap_id (by omega) (by omega)
          have hw2 : IntKind.i64.wrap ((k : Int) + 2) = (k : Int) + 2 := wrap_id (by omega) (by omega)
          have h1a : (0 : Int) ≤ (k : Int) + 1 := by omega
          have h1b : (k : Int) + 1 < (t.size : Int) := by omega
          have h2a : (0 : Int) ≤ (k : Int) + 2 := by omega
          have h2b : (k : Int) + 2 < (t.size : Int) := by omega
          clear hr ho hd' hrest ha hb hp
          go_wp2_with fail
          refine (isHex_yes _ _ HA.out).mono ?_
          rintro e w4 ⟨rfl, rfl⟩
          go_wp2_with fail
          refine (isHex_yes _ _ HB.out).mono ?_
          rintro e w5 ⟨rfl, rfl⟩
          go_wp2_with fail
          go_region_held3 (fun _ => True) (trivial) (first | (go_at_call 45; refine (unhex_yes _ _ (by first | exact HA.out | exact HB.out)).mono ?_; rintro e w' ⟨rfl, rfl⟩) | (refine app_step (by rfl) (.tmp 58) (.tmp 71) (by rfl) w2.heap.size _ pre (by rfl) (by exact hown.alloc _) ⟨w5.heap.size, 0, none⟩ 1 _ (by rfl) (by exact World.cell?_alloc_new _ _ _ _) (by omega) (by simp; omega) ?_; intro v6 w6 hown6 hbel6))
          all_goals
            have h7 : Has w2.heap.size w6 v6 (pre ++ [unhexI ((t[k + 1]'(by omega)).toNat : Int) * 16 + unhexI ((t[k + 2]'hk2).toNat : Int)]) := (congrArg (fun z => Has w2.heap.size w6 v6 (pre ++ [z])) (or_hex HA.out HB.out)).mp hown6
            have hB7 : Below w2.heap.size w2 w6 := (hbel.alloc hws _).drew.trans hbel6
            clear hown6 hbel6 hown
            go_wp2_with fail
            go_roundw
            case rel => exact ⟨k + 3, by go_num, _, o', by omega, h7, HD.out, HO.out.trans (by rw [HE.out]; exact cons_app pre o' _), by simp; omega, hB7⟩
            case measure => simp [intOf]; omega
        · obtain ⟨o', hd', hrest⟩ := dec_head' _ _ _ hp hr
          have HO : Hid _ := ho
          have HD : Hid _ := hd'
          have HE : Hid _ := hrest
          have hpt : ((t[k].toNat : Int) != 37) = true := by simp; omega
          clear hr ho hd' hrest hp
          go_wp2_with (at_builtin; refine app_wpList rfl (.tmp 31) (.tmp 35) rfl w2.heap.size _ pre rfl (hown.alloc _) ⟨wr.heap.size, 0, none⟩ 1 (t[k].toNat : Int) rfl (by simp) (by omega) (by simp; omega) ?_; intro v1 w1 hown1 hbel1)
          have hB5 : Below w2.heap.size w2 w1 := (hbel.alloc (by omega) _).trans hbel1
          clear hbel1 hown
          go_roundw
          case rel => exact ⟨k + 1, by go_num, pre ++ [(t[k].toNat : Int)], o', by omega, hown1, HD.out, by rw [HO.out, HE.out]; simp, by simp; omega, hB5⟩
          case measure => simp [intOf]; omega
      · have hcv := hown.conv
        have hre : rest = [] := by
          rw [List.drop_eq_nil_of_le (by rw [nums_length]; omega)] at hr
          simp [dec] at hr; exact hr
        have HP : Hid (pre = out) := by show pre = out; rw [ho, hre]; simp
        clear hr ho hre
        go_wp2
        go_ret2
        exact ⟨ret_pair HP.out, hbel⟩

set_option maxHeartbeats 400000 in
theorem shim_any (t : ByteArray) (out : List Int) (w : World) (ht : t.size ≤ 800000) (hd : dec (nums t) = some out) :
    Calls Trym.prog 19 #[.string t] w fun e w' => e = .returned (.tuple #[.string (strOfNums out), .bool true]) ∧ Below w.heap.size w w' := by
  have HD : Hid _ := hd
  clear hd
  go_enter Trym.func19, Trym.ntmps19
  go_wp2_with fail
  refine (unesc_any t out _ ht HD.out).mono ?_
  rintro e w2 ⟨rfl, hb⟩
  go_wp2
  go_ret2
  exact ⟨rfl, hb⟩
end Go.Proofs.Qxb6600016aMods.Esc
