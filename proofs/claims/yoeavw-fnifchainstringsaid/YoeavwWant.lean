import Derived.Test.YoeavwNode
import Derived.Lib.AppendStr
namespace Go.Proofs.Yoeavw
open Go.RowKit

theorem Eavg.info5 : (Eavg.prog.info? 5).map (fun i => (i.zero, i.size, i.bytes)) = some (some (.int .u8 0), 1, 1) := by kernel_rfl

/-- The slice 'v' of bytes, made since the world w4, holds the text T; nothing of w4 has turned. -/
structure Want (w4 w : World) (v : Value) (T : ByteArray) : Prop where
  own : w.ownsRow w4.heap.size 5 1 v T.size (Lib.strCells T)
  bel : Below w4.heap.size w4 w

theorem strCells_append (a b : ByteArray) : Lib.strCells (a ++ b) = Lib.strCells a ++ Lib.strCells b := by
  simp [Lib.strCells]

theorem Want.grown {w4 w w' : World} {v v' : Value} {T s : ByteArray} (h : Want w4 w v T) (ho : w'.ownsRow w4.heap.size 5 1 v' (T.size + s.size) (Lib.strCells T ++ Lib.strCells s)) (hg : w.grownBy w' v.ownBlock) : Want w4 w' v' (T ++ s) :=
  ⟨by rw [ByteArray.size_append, strCells_append]; exact ho, h.bel.grown hg h.bel.size (fun k hk => (h.own.lt k hk).1)⟩

theorem Want.alloc {w4 w : World} {v : Value} {T : ByteArray} (h : Want w4 w v T) (o : Obj) : Want w4 (w.alloc o) v T := ⟨h.own.alloc o, h.bel.alloc h.bel.size o⟩

/-- 'want = append(want, s...)', s a string. -/
theorem want_str {ops : Array Oper} {rest : List Oper} {o : Oper} {a : Act} {Q : Exit → Act → World → Prop} {w4 w : World} {v : Value} {T : ByteArray} (hgd : o.guard = none) (sl x : Operand)
    (ho : o.op = .call { callee := .builtin .append, args := #[sl, x], argTypes := #[39, 9] }) (h : Want w4 w v T) (hs : a.eval sl = v) (s : ByteArray) (hx : a.eval x = .string s) (hb : T.size + s.size ≤ 1099511627776)
    (hK : ∀ v' w', Want w4 w' v' (T ++ s) → wpList Eavg.prog ops Q rest (a.put o.dst v') w') : wpList Eavg.prog ops Q (o :: rest) a w := by
  obtain ⟨i0, hi, hz0, hz1, hz2⟩ := info_parts Eavg.info5
  exact Lib.wpList_append_own_string w hgd sl x 39 9 ho w4.heap.size 5 i0 Eavg.underlying39 Eavg.underlying9 hi hz0 hz1 hz2 v T.size (Lib.strCells T) hs h.own s hx (by unfold maxLen; omega) (by omega) h.bel.size
    (fun v' w' h1 h2 _ => hK v' w' (h.grown h1 h2))

/-- 'want = append(want, c)', c a byte: it lies in a new block of its own. -/
theorem want_byte {ops : Array Oper} {rest : List Oper} {o : Oper} {a : Act} {Q : Exit → Act → World → Prop} {w4 w : World} {v : Value} {T : ByteArray} (hgd : o.guard = none) (sl x : Operand)
    (ho : o.op = .call { callee := .builtin .append, args := #[sl, x], argTypes := #[39, 39] }) (h : Want w4 w v T) (hs : a.eval sl = v) (c : UInt8) (n : Int) (hn : n = c.toNat) (hx : a.eval x = .slice (some ⟨w.heap.size, 0, none⟩) 1 1) (hb : T.size + 1 ≤ 1099511627776)
    (hK : ∀ v' w', Want w4 w' v' (T ++ ⟨#[c]⟩) → wpList Eavg.prog ops Q rest (a.put o.dst v') w') : wpList Eavg.prog ops Q (o :: rest) a (w.alloc (.cells #[.int .u8 n] 5)) := by
  obtain ⟨i0, hi, hz0, hz1, hz2⟩ := info_parts Eavg.info5
  subst hn
  have h' := h.alloc (.cells #[.int .u8 c.toNat] 5)
  refine wpList_append_own _ hgd sl x 39 ho w4.heap.size 5 i0 (.int .u8 0) 1 1 Eavg.underlying39 hi hz0 hz1 hz2 rfl (by decide) v T.size (Lib.strCells T) hs h'.own ⟨w.heap.size, 0, none⟩ 1 1 [.int .u8 c.toNat] hx rfl ?_ ?_ (by unfold maxLen; omega) (by omega) h'.bel.size
    (fun v' w' h1 h2 _ => hK v' w' (h'.grown (s := ⟨#[c]⟩) h1 h2))
  · intro j u hj
    match j, hj with
    | 0, hj => simp at hj; subst hj; simp [Addr.add]
  · intro u hu; simp at hu; subst hu; rfl

theorem nums_id (l : List UInt8) : (l.map fun b => (b.toNat : Int)).map (fun n : Int => UInt8.ofNat n.toNat) = l := by
  induction l with
  | nil => rfl
  | cons a l ih =>
    rw [List.map_cons, List.map_cons, ih]
    simp

/-- 'string(want)'. -/
theorem want_string {w4 w : World} {v : Value} {T : ByteArray} (h : Want w4 w v T) (hT : 0 < T.size) : (convert 39 9 v).run Eavg.prog w = .ok (.string T) w := by
  rcases h.own.2 with ⟨_, h0⟩ | ⟨g, cap, cur, rfl, _⟩
  · omega
  · have hc := run_convert_bytes_arg (P := Eavg.prog) w 39 5 Eavg.underlying39 (by kernel_rfl) g 0 T.size cap (T.data.toList.map fun b => (b.toNat : Int)) (by simp) (fun i hi => by
      rw [Nat.zero_add, h.own.cellAt i (by omega)]
      have hi' : T.data[i]? = some T.data[i] := Array.getElem?_eq_getElem hi
      simp [Lib.strCells]
      rw [hi']
      exact ⟨_, rfl, rfl⟩) 9 Eavg.underlying9
    rw [hc]
    congr 2
    apply ba_ext
    rw [strOfNums_data]
    exact nums_id _

/-- What stands ahead of the k-th condition. -/
def headText (k : Nat) : ByteArray := if k = 0 then ⟨#[105, 102, 32]⟩ else ⟨#[32, 101, 108, 115, 101, 32, 105, 102, 32]⟩

/-- The text wanted of the first k links. -/
def wantTo (s0 s1 : List ByteArray) : Nat → ByteArray
  | 0 => ⟨#[]⟩
  | k + 1 => wantTo s0 s1 k ++ headText k ++ s0.getD k ByteArray.empty ++ ⟨#[32, 123]⟩ ++ s1.getD k ByteArray.empty ++ ⟨#[125]⟩

theorem headText_size (k : Nat) : (headText k).size ≤ 9 := by
  unfold headText; split <;> decide

theorem wantTo_size {s0 s1 : List ByteArray} (h0 : Small s0 s0.length) (h1 : Small s1 s1.length) (k : Nat) : (wantTo s0 s1 k).size ≤ k * 2097200 := by
  induction k with
  | zero => exact Nat.zero_le _
  | succ k ih =>
    have a := getD_size h0 k
    have b := getD_size h1 k
    have c := headText_size k
    have e1 : (ByteArray.mk #[32, 123]).size = 2 := rfl
    have e2 : (ByteArray.mk #[125]).size = 1 := rfl
    simp only [wantTo, ByteArray.size_append, e1, e2]
    omega

theorem wantTo_pos (s0 s1 : List ByteArray) {k : Nat} (h : 0 < k) : 0 < (wantTo s0 s1 k).size := by
  cases k with
  | zero => omega
  | succ k =>
    have e2 : (ByteArray.mk #[125]).size = 1 := rfl
    simp only [wantTo, ByteArray.size_append, e2]
    omega

theorem ret_true {b : Bool} (h : b = true) : Ending.returned (.bool b) = .returned (.bool true) := by rw [h]
theorem beq_of_eq {a b : ByteArray} (h : a = b) : (a.toList == b.toList) = true := by rw [h]; exact beq_self_eq_true _

theorem want_law (s0 s1 : List ByteArray) (et : ByteArray) (k : Nat) (hk : k < s0.length) :
    wantTo s0 s1 (k + 1) ++ tailText et (pairs s0 s1 (k + 1)) = ifText ⟨#[]⟩ (s0.getD 0 ByteArray.empty) (s1.getD 0 ByteArray.empty) (tailText et (pairs s0 s1 1)) := by
  induction k with
  | zero =>
    apply ba_ext
    simp [ifText_data, wantTo, headText]
  | succ k ih =>
    rw [← ih (by omega), pairs_step s0 s1 (k + 1) hk]
    have e : ∀ c b R : ByteArray, (⟨#[32, 101, 108, 115, 101, 32]⟩ ++ ifText ⟨#[]⟩ c b R : ByteArray).data.toList = [32, 101, 108, 115, 101, 32, 105, 102, 32] ++ (c.data.toList ++ ([32, 123] ++ (b.data.toList ++ ([125] ++ R.data.toList)))) := by
      intro c b R
      simp [ifText_data]
    have e2 : tailText et ((s0.getD (k + 1) ByteArray.empty, s1.getD (k + 1) ByteArray.empty) :: pairs s0 s1 (k + 1 + 1)) = ⟨#[32, 101, 108, 115, 101, 32]⟩ ++ ifText ⟨#[]⟩ (s0.getD (k + 1) ByteArray.empty) (s1.getD (k + 1) ByteArray.empty) (tailText et (pairs s0 s1 (k + 1 + 1))) := rfl
    have e3 : wantTo s0 s1 (k + 1 + 1) = wantTo s0 s1 (k + 1) ++ headText (k + 1) ++ s0.getD (k + 1) ByteArray.empty ++ ⟨#[32, 123]⟩ ++ s1.getD (k + 1) ByteArray.empty ++ ⟨#[125]⟩ := rfl
    have e4 : headText (k + 1) = ⟨#[32, 101, 108, 115, 101, 32, 105, 102, 32]⟩ := by simp [headText]
    rw [e2, e3, e4]
    generalize wantTo s0 s1 (k + 1) = T
    generalize tailText et (pairs s0 s1 (k + 1 + 1)) = R
    generalize s0.getD (k + 1) ByteArray.empty = c
    generalize s1.getD (k + 1) ByteArray.empty = b
    have h := e c b R
    apply ba_ext
    rw [ByteArray.data_append (l := T) (l' := _ ++ ifText _ _ _ _), Array.toList_append, h]
    simp

theorem want_end (s0 s1 : List ByteArray) (et : ByteArray) (h : 0 < s0.length) :
    wantTo s0 s1 s0.length ++ et = ifText ⟨#[]⟩ (s0.getD 0 ByteArray.empty) (s1.getD 0 ByteArray.empty) (tailText et (pairs s0 s1 1)) := by
  obtain ⟨n, hn⟩ : ∃ n, s0.length = n + 1 := ⟨s0.length - 1, by omega⟩
  have := want_law s0 s1 et n (by omega)
  rw [← hn, pairs_end] at this
  exact this

theorem want_else (T y : ByteArray) : T ++ ⟨#[32, 101, 108, 115, 101, 32, 123]⟩ ++ y ++ ⟨#[125]⟩ = T ++ elseT true y := by
  apply ba_ext
  rw [ByteArray.data_append (l := T) (l' := elseT true y), Array.toList_append, elseT_data]
  simp

theorem want_noelse (T y : ByteArray) : T = T ++ elseT false y := by
  apply ba_ext
  rw [ByteArray.data_append, Array.toList_append, elseT_data]
  simp

end Go.Proofs.Yoeavw
