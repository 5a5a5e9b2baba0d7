/-
  A row of bytes that the call itself made: append one, append a string, make a string of it. By a prover of this seat.
-/
import Derived.Test.Qxb6600016aModsLeaf
import Derived.Laws.BytesArg
import Derived.Maps.AppendAt
import Derived.Deep.AppendSrc
namespace Go.Proofs.Qxb6600016aMods.Esc
open Go.ChangeShapes Go.WideShapes Go.ChangeAt Go.RowKit

theorem info5 : (Trym.prog.info? 5).map (fun i => (i.zero, i.size, i.bytes)) = some (some (.int .u8 0), 1, 1) := by kernel_rfl

/-- the slice value v owns the bytes L, among the call's own blocks -/
def Has (base : Nat) (w : World) (v : Value) (L : List Int) : Prop := w.ownsRow base 5 1 v L.length (L.map (Value.int .u8))

theorem Has.alloc {base : Nat} {w : World} {v : Value} {L : List Int} (h : Has base w v L) (o : Obj) : Has base (w.alloc o) v L := World.ownsRow.alloc h o
theorem Has.drewN {base : Nat} {w : World} {v : Value} {L : List Int} (h : Has base w v L) (n : Nat) : Has base (w.drewN n) v L := h

theorem own_ge {base : Nat} {w : World} {e : TypeId} {size : Nat} {v : Value} {n : Nat} {xs : List Value} (h : w.ownsRow base e size v n xs) : ∀ k, v.ownBlock = some k → base ≤ k := by
  intro k hk
  rcases h.2 with ⟨rfl, _⟩ | ⟨g, cap, cur, rfl, hg, _⟩
  · simp [Value.ownBlock] at hk
  · simp [Value.ownBlock] at hk; omega

theorem app_wp {W : World} {o : Oper} {a : Act} {K : Act → World → Prop} {Q : Exit → Act → World → Prop} (s x : Operand)
    (ho : o.op = .call { callee := .builtin .append, args := #[s, x], argTypes := #[30, 30] }) (base : Nat) (v : Value) (L : List Int) (hs : a.eval s = v) (hown : Has base W v L)
    (ad : Addr) (c : Nat) (z : Int) (hx : a.eval x = .slice (some ad) 1 c) (hz : W.cell? ad = some (.int .u8 z)) (hL : L.length ≤ 1000000000) (hbase : base ≤ W.heap.size)
    (h : ∀ v' w', Has base w' v' (L ++ [z]) → Below base W w' → K (a.put o.dst v') w') : Oper.wp Trym.prog o a W K Q := by
  obtain ⟨i0, hi, hz0, hz1, hz2⟩ := info_parts info5
  refine wp_append_own W s x 30 ho base 5 i0 (.int .u8 0) 1 1 Trym.underlying30 hi hz0 hz1 hz2 rfl (by decide) v L.length (L.map (Value.int .u8)) hs hown ad 1 c [.int .u8 z] hx rfl ?_ ?_ (by unfold maxLen; omega) (by omega) hbase ?_
  · intro j u hj
    match j, hj with
    | 0, hj => simp at hj; subst hj; simpa [Addr.add] using hz
  · intro u hu; simp at hu; subst hu; rfl
  · intro v' w' h2 h3 _
    refine h v' w' (by unfold Has; simpa using h2) ((Below.refl _ _).grown h3 hbase ?_)
    exact fun k hk => own_ge hown k hk

theorem app_wpList {W : World} {ops : Array Oper} {rest : List Oper} {o : Oper} {a : Act} {Q : Exit → Act → World → Prop} (hgd : o.guard = none) (s x : Operand)
    (ho : o.op = .call { callee := .builtin .append, args := #[s, x], argTypes := #[30, 30] }) (base : Nat) (v : Value) (L : List Int) (hs : a.eval s = v) (hown : Has base W v L)
    (ad : Addr) (c : Nat) (z : Int) (hx : a.eval x = .slice (some ad) 1 c) (hz : W.cell? ad = some (.int .u8 z)) (hL : L.length ≤ 1000000000) (hbase : base ≤ W.heap.size)
    (h : ∀ v' w', Has base w' v' (L ++ [z]) → Below base W w' → wpList Trym.prog ops Q rest (a.put o.dst v') w') : wpList Trym.prog ops Q (o :: rest) a W :=
  wpList_plain hgd fun _ hK => app_wp s x ho base v L hs hown ad c z hx hz hL hbase fun v' w' h2 h3 => hK _ _ (h v' w' h2 h3)

theorem Has.conv {base : Nat} {w : World} {v : Value} {L : List Int} (h : Has base w v L) : (convert 30 9 v).run Trym.prog w = .ok (.string (strOfNums L)) w := by
  rcases h.2 with ⟨rfl, hn⟩ | ⟨g, cap, cur, rfl, hg, hh, _, _, _, ht⟩
  · have : L = [] := List.eq_nil_of_length_eq_zero hn
    subst this
    exact run_convert_bytes_nil w 30 5 Trym.underlying30 Trym.underlying5 0 0 9 Trym.underlying9
  · refine run_convert_bytes_arg w 30 5 Trym.underlying30 Trym.underlying5 g 0 L.length cap L rfl ?_ 9 Trym.underlying9
    intro i hi
    have := World.ownsRow.cellAt (h : w.ownsRow base 5 1 (.slice (some ⟨g, 0, none⟩) L.length cap) L.length (L.map (Value.int .u8))) i (by omega)
    rw [Nat.zero_add, this]
    simp [List.getElem?_eq_getElem hi]

/-- the bytes of a string as numbers -/
def nums (s : ByteArray) : List Int := s.data.toList.map fun b => (b.toNat : Int)
theorem nums_length (s : ByteArray) : (nums s).length = s.size := by unfold nums; rw [List.length_map]; rfl
theorem nums_range (s : ByteArray) : ∀ c ∈ nums s, 0 ≤ c ∧ c ≤ 255 := by
  intro c hc
  simp [nums] at hc
  obtain ⟨b, _, rfl⟩ := hc
  have := b.toNat_lt
  omega
theorem nums_at (s : ByteArray) (k : Nat) (h : k < s.size) : (nums s)[k]? = some (s[k].toNat : Int) := by
  have h' : k < s.data.toList.length := h
  simp only [nums, List.getElem?_map, List.getElem?_eq_getElem h']
  rfl
theorem nums_snoc (s : ByteArray) (k : Nat) (h : k < s.size) : (nums s).take (k + 1) = (nums s).take k ++ [(s[k].toNat : Int)] := by
  have hk : k < (nums s).length := by rw [nums_length]; exact h
  rw [List.take_succ_eq_append_getElem hk]
  have := nums_at s k h
  rw [List.getElem?_eq_getElem hk] at this
  simp at this
  rw [this]
theorem nums_drop (s : ByteArray) (k : Nat) (h : k < s.size) : (nums s).drop k = (s[k].toNat : Int) :: (nums s).drop (k + 1) := by
  have hk : k < (nums s).length := by rw [nums_length]; exact h
  rw [List.drop_eq_getElem_cons hk]
  have := nums_at s k h
  rw [List.getElem?_eq_getElem hk] at this
  simp at this
  rw [this]
theorem strOfNums_nums (s : ByteArray) : strOfNums (nums s) = s := by
  unfold strOfNums nums
  have e : ((fun n : Int => UInt8.ofNat n.toNat) ∘ fun b : UInt8 => (b.toNat : Int)) = id := by funext b; simp
  cases s with | mk d => simp only [List.map_map, e, List.map_id, Array.toArray_toList]
theorem nums_strOfNums (L : List Int) (h : ∀ c ∈ L, 0 ≤ c ∧ c ≤ 255) : nums (strOfNums L) = L := by
  unfold nums strOfNums
  simp
  conv => rhs; rw [← List.map_id L]
  apply List.map_congr_left
  intro c hc
  obtain ⟨h0, h1⟩ := h c hc
  simp
  omega
end Go.Proofs.Qxb6600016aMods.Esc
