import Derived.Test.YoeavwPlain
namespace Go.Proofs.Yoeavw
open Go.RowKit

/-- The first k strings are small. -/
def Small (ss : List ByteArray) (k : Nat) : Prop := ∀ j, j < k → (ss.getD j ByteArray.empty).size ≤ 1048576

theorem Small.zero (ss : List ByteArray) : Small ss 0 := fun _ h => by omega
theorem Small.grow {ss : List ByteArray} {k : Nat} (h : Small ss k) {x : ByteArray} (hx : Hid (ss.getD k ByteArray.empty = x)) (hs : (x.size : Int) ≤ 1048576) : Small ss (k + 1) := fun j hj => by
  by_cases e : j = k
  · subst e; rw [hx.out]; omega
  · exact h j (by omega)

/-- The text behind an if statement's body: the rest of the chain, each with ' else ' ahead of it, at last 'et'. -/
def tailText (et : ByteArray) : List (ByteArray × ByteArray) → ByteArray
  | [] => et
  | (c, b) :: r => ⟨#[32, 101, 108, 115, 101, 32]⟩ ++ ifText ⟨#[]⟩ c b (tailText et r)

/-- 'v' is the chain's next node: nil, or a pointer whose String() gives the chain's text in this and every later world. -/
def NextAt (w : World) (v : Value) (et : ByteArray) : List (ByteArray × ByteArray) → Prop
  | [] => v = .pointer none
  | (c, b) :: r => ∃ g : Nat, v = .pointer (some ⟨g, 0, none⟩) ∧ ∀ w1, Below w.heap.size w w1 →
      Calls Eavg.prog 8 #[.pointer (some ⟨g, 0, none⟩)] w1 fun e w' => e = .returned (.string (ifText ⟨#[]⟩ c b (tailText et r))) ∧ Below w1.heap.size w1 w'

/-- An IfStmt as it was made: no Init, no Else yet. -/
structure RawIf (w : World) (g : Nat) (c b : ByteArray) : Prop where
  ex : ∃ ci bb : Nat, w.cell? ⟨g, 1, none⟩ = some .nilIface ∧ w.cell? ⟨g, 2, none⟩ = some (.iface 26 (.pointer (some ⟨ci, 0, none⟩))) ∧ w.cell? ⟨ci, 0, none⟩ = some (.string c) ∧
    w.cell? ⟨g, 3, none⟩ = some (.pointer (some ⟨bb, 0, none⟩)) ∧ BlockAt w bb b ∧ w.cell? ⟨g, 4, none⟩ = some .nilIface ∧ w.frozen? ⟨g, 4, none⟩ = false

theorem RawIf.kept {w w' : World} {g : Nat} {c b : ByteArray} (h : RawIf w g c b) (hb : Below w.heap.size w w') : RawIf w' g c b := by
  obtain ⟨ci, bb, h1, h2, h3, h4, h5, h6, h7⟩ := h
  exact ⟨ci, bb, cell_kept hb h1, cell_kept hb h2, cell_kept hb h3, cell_kept hb h4, h5.kept hb, cell_kept hb h6, (hb.frozen (World.block_lt_of_cell? w _ h6)).trans h7⟩

theorem RawIf.cell {w : World} {g : Nat} {c b : ByteArray} (h : RawIf w g c b) : w.cell? ⟨g, 4, none⟩ = some .nilIface ∧ w.frozen? ⟨g, 4, none⟩ = false := by
  obtain ⟨ci, bb, h1, h2, h3, h4, h5, h6, h7⟩ := h
  exact ⟨h6, h7⟩

theorem cell_else {w : World} {g : Nat} {v u : Value} {q : Addr} (h : w.cell? q = some u) (hq : q.off < 4) : (w.setCell ⟨g, 4, none⟩ v).cell? q = some u := by
  rw [World.cell?_setCell_other]
  · exact h
  · intro e; subst e; simp at hq

theorem BlockAt.stored {w : World} {g n : Nat} {v : Value} {s : ByteArray} (h : BlockAt w n s) : BlockAt (w.setCell ⟨g, 4, none⟩ v) n s := by
  obtain ⟨c, d, e, h1, h2, h3, h4⟩ := h
  exact ⟨c, d, e, cell_else h1 (by simp), cell_else h2 (by simp), cell_else h3 (by simp), cell_else h4 (by simp)⟩

/-- The Else field is stored: an IfStmt. -/
theorem RawIf.stored {w : World} {g : Nat} {c b : ByteArray} (h : RawIf w g c b) (v : Value) (et : ByteArray) (hE : ElseAt (w.setCell ⟨g, 4, none⟩ v) v et) : IfAt (w.setCell ⟨g, 4, none⟩ v) g ⟨#[]⟩ c b et := by
  obtain ⟨ci, bb, h1, h2, h3, h4, h5, h6, h7⟩ := h
  exact ⟨ci, bb, .nilIface, v, cell_else h1 (by simp), .inl ⟨rfl, rfl⟩, cell_else h2 (by simp), cell_else h3 (by simp), cell_else h4 (by simp), h5.stored, World.cell?_setCell_same _ _ _ h6, hE⟩

theorem RawIf.bare {w : World} {g : Nat} {c b : ByteArray} (h : RawIf w g c b) : IfAt w g ⟨#[]⟩ c b ⟨#[]⟩ := by
  obtain ⟨ci, bb, h1, h2, h3, h4, h5, h6, h7⟩ := h
  exact ⟨ci, bb, .nilIface, .nilIface, h1, .inl ⟨rfl, rfl⟩, h2, h3, h4, h5, h6, .inl ⟨rfl, rfl⟩⟩

theorem next_of {w : World} {g : Nat} {c b et : ByteArray} {r : List (ByteArray × ByteArray)} (h : IfAt w g ⟨#[]⟩ c b (tailText et r)) (sc : c.size ≤ 1048576) (sb : b.size ≤ 1048576) :
    NextAt w (.pointer (some ⟨g, 0, none⟩)) et ((c, b) :: r) :=
  ⟨g, rfl, fun w1 h1 => if_string g w1 ⟨#[]⟩ c b (tailText et r) (h.kept h1) (by omega) (by omega)⟩

/-- Below a node's block nothing turns at the store of its Else field. -/
theorem below_else {w0 w : World} {g : Nat} (h : Below w0.heap.size w0 w) (hg : w0.heap.size ≤ g) (v : Value) : Below w0.heap.size w0 (w.setCell ⟨g, 4, none⟩ v) := h.setCell hg v

/-- THE THREE WAYS OF A ROUND. 'w0': the world in which the round began. -/
theorem node_last {w0 w : World} {g : Nat} {c b : ByteArray} (h : RawIf w g c b) (hb : Below w0.heap.size w0 w) (sc : c.size ≤ 1048576) (sb : b.size ≤ 1048576) :
    NextAt w (.pointer (some ⟨g, 0, none⟩)) ⟨#[]⟩ ((c, b) :: []) ∧ Below w0.heap.size w0 w := ⟨next_of h.bare sc sb, hb⟩

theorem node_else {w0 w w' : World} {g n : Nat} {c b y : ByteArray} (h : RawIf w g c b) (hb : Below w0.heap.size w0 w) (hg : w0.heap.size ≤ g) (hw : Below w.heap.size w w') (hn : BlockAt w' n y) (sc : c.size ≤ 1048576) (sb : b.size ≤ 1048576) (sy : y.size ≤ 1048576) :
    NextAt (w'.setCell ⟨g, 4, none⟩ (.iface 30 (.pointer (some ⟨n, 0, none⟩)))) (.pointer (some ⟨g, 0, none⟩)) (elseBlockText y) ((c, b) :: []) ∧ Below w0.heap.size w0 (w'.setCell ⟨g, 4, none⟩ (.iface 30 (.pointer (some ⟨n, 0, none⟩)))) :=
  ⟨next_of ((h.kept hw).stored _ _ (.inr (.inl ⟨n, y, rfl, hn.stored, by omega, rfl⟩))) sc sb, below_else (hb.trans (hw.mono hb.size)) hg _⟩

theorem node_next {w0 w : World} {g n : Nat} {c b c' b' et : ByteArray} {r : List (ByteArray × ByteArray)} (h : RawIf w g c b) (hb : Below w0.heap.size w0 w) (hg : w0.heap.size ≤ g)
    (hn : NextAt w0 (.pointer (some ⟨n, 0, none⟩)) et ((c', b') :: r)) (sz : (ifText ⟨#[]⟩ c' b' (tailText et r)).size ≤ 1099511627776) (sc : c.size ≤ 1048576) (sb : b.size ≤ 1048576) :
    NextAt (w.setCell ⟨g, 4, none⟩ (.iface 25 (.pointer (some ⟨n, 0, none⟩)))) (.pointer (some ⟨g, 0, none⟩)) et ((c, b) :: (c', b') :: r) ∧ Below w0.heap.size w0 (w.setCell ⟨g, 4, none⟩ (.iface 25 (.pointer (some ⟨n, 0, none⟩)))) := by
  have hbw := below_else (v := .iface 25 (.pointer (some ⟨n, 0, none⟩))) hb hg
  obtain ⟨n', hn', hc⟩ := hn
  simp only [Value.pointer.injEq, Option.some.injEq, Addr.mk.injEq, and_true] at hn'
  subst hn'
  exact ⟨next_of (h.stored _ _ (.inr (.inr ⟨n, _, rfl, fun w1 h1 => hc w1 (hbw.trans (h1.mono hbw.size)), sz, rfl⟩))) sc sb, hbw⟩

theorem tailText_size (et : ByteArray) (L : List (ByteArray × ByteArray)) (h : ∀ p ∈ L, p.1.size ≤ 1048576 ∧ p.2.size ≤ 1048576) : (tailText et L).size ≤ et.size + L.length * 2097200 := by
  induction L with
  | nil => simp [tailText]
  | cons p r ih =>
    obtain ⟨c, b⟩ := p
    have h1 := h (c, b) (by simp)
    have h2 := ih (fun q hq => h q (by simp [hq]))
    have e : (tailText et ((c, b) :: r)).size = 6 + (ifText ⟨#[]⟩ c b (tailText et r)).size := by
      show (_ ++ _ : ByteArray).size = _
      rw [ByteArray.size_append]; rfl
    have e0 : (ByteArray.mk #[]).size = 0 := rfl
    rw [e, ifText_size, e0, List.length_cons]
    simp only at h1
    omega

/-- A node is made: its block is the newest. -/
theorem raw_of {wr w' : World} {ci n : Nat} {C B : ByteArray} (hb : Below wr.heap.size wr w') (hid : w'.cell? ⟨ci, 0, none⟩ = some (.string C)) (hblk : BlockAt w' n B) :
    RawIf (w'.alloc (.cells #[.int .i64 0, .nilIface, .iface 26 (.pointer (some ⟨ci, 0, none⟩)), .pointer (some ⟨n, 0, none⟩), .nilIface] 37)) w'.heap.size C B ∧
      Below wr.heap.size wr (w'.alloc (.cells #[.int .i64 0, .nilIface, .iface 26 (.pointer (some ⟨ci, 0, none⟩)), .pointer (some ⟨n, 0, none⟩), .nilIface] 37)) ∧ wr.heap.size ≤ w'.heap.size := by
  have hb2 : Below w'.heap.size w' (w'.alloc (.cells #[.int .i64 0, .nilIface, .iface 26 (.pointer (some ⟨ci, 0, none⟩)), .pointer (some ⟨n, 0, none⟩), .nilIface] 37)) := (Below.refl _ _).alloc (Nat.le_refl _) _
  refine ⟨⟨ci, n, ?_, ?_, cell_kept hb2 hid, ?_, hblk.kept hb2, ?_, ?_⟩, hb.trans (hb2.mono hb.size), hb.size⟩ <;> simp

/-- The node of a round, the identifier boxed ahead of the block. -/
theorem raw_a {wr w3 : World} {C B : ByteArray} (hblk : BlockAt w3 ((wr.alloc (.cells #[.string C, .int .i64 0] 29)).drew.heap.size + 3) B)
    (hb : Below (wr.alloc (.cells #[.string C, .int .i64 0] 29)).drew.heap.size (wr.alloc (.cells #[.string C, .int .i64 0] 29)).drew w3) (hs : w3.heap.size = (wr.alloc (.cells #[.string C, .int .i64 0] 29)).drew.heap.size + 4) :
    ∃ g : Nat, Value.pointer (some ⟨wr.heap.size + 1 + 4, 0, none⟩) = .pointer (some ⟨g, 0, none⟩) ∧
      RawIf (w3.alloc (.cells #[.int .i64 0, .nilIface, .iface 26 (.pointer (some ⟨wr.heap.size, 0, none⟩)), .pointer (some ⟨wr.heap.size + 1 + 3, 0, none⟩), .nilIface] 37)) g C B ∧
      Below wr.heap.size wr (w3.alloc (.cells #[.int .i64 0, .nilIface, .iface 26 (.pointer (some ⟨wr.heap.size, 0, none⟩)), .pointer (some ⟨wr.heap.size + 1 + 3, 0, none⟩), .nilIface] 37)) ∧ wr.heap.size ≤ g := by
  have e : w3.heap.size = wr.heap.size + 1 + 4 := by rw [hs]; simp
  have hb0 : Below wr.heap.size wr (wr.alloc (.cells #[.string C, .int .i64 0] 29)).drew := ((Below.refl _ _).alloc (Nat.le_refl _) _).drew
  have hid : (wr.alloc (.cells #[.string C, .int .i64 0] 29)).drew.cell? ⟨wr.heap.size, 0, none⟩ = some (.string C) := by
    show (wr.alloc (.cells #[.string C, .int .i64 0] 29)).cell? ⟨wr.heap.size, 0, none⟩ = _
    simp
  have hk : BlockAt w3 (wr.heap.size + 1 + 3) B := by simpa using hblk
  obtain ⟨r1, r2, r3⟩ := raw_of (hb0.trans (hb.mono hb0.size)) (cell_kept hb hid) hk
  exact ⟨wr.heap.size + 1 + 4, rfl, by rw [← e]; exact r1, r2, by omega⟩

/-- The node of a round, the identifier boxed behind the block. -/
theorem raw_b {wr w3 : World} {C B : ByteArray} (hblk : BlockAt w3 (wr.drew.heap.size + 3) B) (hb : Below wr.drew.heap.size wr.drew w3) (hs : w3.heap.size = wr.drew.heap.size + 4) :
    ∃ g : Nat, Value.pointer (some ⟨wr.heap.size + 4 + 1, 0, none⟩) = .pointer (some ⟨g, 0, none⟩) ∧
      RawIf ((w3.alloc (.cells #[.string C, .int .i64 0] 29)).alloc (.cells #[.int .i64 0, .nilIface, .iface 26 (.pointer (some ⟨wr.heap.size + 4, 0, none⟩)), .pointer (some ⟨wr.heap.size + 3, 0, none⟩), .nilIface] 37)) g C B ∧
      Below wr.heap.size wr ((w3.alloc (.cells #[.string C, .int .i64 0] 29)).alloc (.cells #[.int .i64 0, .nilIface, .iface 26 (.pointer (some ⟨wr.heap.size + 4, 0, none⟩)), .pointer (some ⟨wr.heap.size + 3, 0, none⟩), .nilIface] 37)) ∧ wr.heap.size ≤ g := by
  have e : w3.heap.size = wr.heap.size + 4 := by rw [hs]; simp
  have e2 : (w3.alloc (.cells #[.string C, .int .i64 0] 29)).heap.size = wr.heap.size + 4 + 1 := by simp [e]
  have hb0 := undrew hb
  have hb1 : Below w3.heap.size w3 (w3.alloc (.cells #[.string C, .int .i64 0] 29)) := (Below.refl _ _).alloc (Nat.le_refl _) _
  have hid : (w3.alloc (.cells #[.string C, .int .i64 0] 29)).cell? ⟨wr.heap.size + 4, 0, none⟩ = some (.string C) := by
    rw [← e]; simp
  have hk : BlockAt w3 (wr.heap.size + 3) B := by simpa using hblk
  obtain ⟨r1, r2, r3⟩ := raw_of (hb0.trans (hb1.mono hb0.size)) hid (hk.kept hb1)
  exact ⟨wr.heap.size + 4 + 1, rfl, by rw [← e2]; exact r1, r2, by omega⟩

/-- The chain's nodes from number k on: each condition with its body (none: the empty text). -/
def pairs (s0 s1 : List ByteArray) (k : Nat) : List (ByteArray × ByteArray) := ((List.range s0.length).drop k).map fun i => (s0.getD i ByteArray.empty, s1.getD i ByteArray.empty)

theorem pairs_end (s0 s1 : List ByteArray) : pairs s0 s1 s0.length = [] := by simp [pairs]

theorem pairs_step (s0 s1 : List ByteArray) (k : Nat) (h : k < s0.length) : pairs s0 s1 k = (s0.getD k ByteArray.empty, s1.getD k ByteArray.empty) :: pairs s0 s1 (k + 1) := by
  unfold pairs
  rw [List.drop_eq_getElem_cons (by simpa using h)]
  simp

theorem pairs_length (s0 s1 : List ByteArray) (k : Nat) : (pairs s0 s1 k).length = s0.length - k := by simp [pairs]

theorem getD_size {ss : List ByteArray} (h : Small ss ss.length) (i : Nat) : (ss.getD i ByteArray.empty).size ≤ 1048576 := by
  by_cases hi : i < ss.length
  · exact h i hi
  · have e : ss.getD i ByteArray.empty = ByteArray.empty := by simp [List.getD, List.getElem?_eq_none (Nat.le_of_not_lt hi)]
    rw [e]; exact Nat.zero_le _

theorem pairs_small {s0 s1 : List ByteArray} (h0 : Small s0 s0.length) (h1 : Small s1 s1.length) (k : Nat) : ∀ p ∈ pairs s0 s1 k, p.1.size ≤ 1048576 ∧ p.2.size ≤ 1048576 := by
  intro p hp
  obtain ⟨i, _, rfl⟩ := List.mem_map.1 hp
  exact ⟨getD_size h0 i, getD_size h1 i⟩

theorem chain_size {s0 s1 : List ByteArray} (h0 : Small s0 s0.length) (h1 : Small s1 s1.length) (hl : s0.length ≤ 256) (et : ByteArray) (het : et.size ≤ 2097152) {k : Nat} {c b : ByteArray} {r : List (ByteArray × ByteArray)} (hp : pairs s0 s1 k = (c, b) :: r) :
    (ifText ⟨#[]⟩ c b (tailText et r)).size ≤ 1099511627776 := by
  have hs := pairs_small h0 h1 k
  have hn := pairs_length s0 s1 k
  rw [hp] at hs hn
  have h := tailText_size et ((c, b) :: r) hs
  have e : (tailText et ((c, b) :: r)).size = 6 + (ifText ⟨#[]⟩ c b (tailText et r)).size := by
    show (_ ++ _ : ByteArray).size = _
    rw [ByteArray.size_append]; rfl
  rw [e] at h
  have h2 : (((c, b) :: r) : List (ByteArray × ByteArray)).length ≤ 256 := by omega
  have h3 : (((c, b) :: r) : List (ByteArray × ByteArray)).length * 2097200 ≤ 256 * 2097200 := Nat.mul_le_mul_right _ h2
  omega
end Go.Proofs.Yoeavw
