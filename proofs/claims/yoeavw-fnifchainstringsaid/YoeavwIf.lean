import Derived.Test.YoeavwLeaf
import Derived.Deep.RegionHeld3
namespace Go.Proofs.Yoeavw
open Go.RowKit

theorem cell_kept {w w' : World} (hb : Below w.heap.size w w') {a : Addr} {v : Value} (h : w.cell? a = some v) : w'.cell? a = some v :=
  (hb.cell (World.block_lt_of_cell? w a h)).trans h

theorem BlockAt.kept {w w' : World} {b : Nat} {s : ByteArray} (h : BlockAt w b s) (hb : Below w.heap.size w w') : BlockAt w' b s := by
  obtain ⟨c, d, e, h1, h2, h3, h4⟩ := h
  exact ⟨c, d, e, cell_kept hb h1, cell_kept hb h2, cell_kept hb h3, cell_kept hb h4⟩

theorem BlockAt.drew {w : World} {b : Nat} {s : ByteArray} (h : BlockAt w b s) : BlockAt w.drew b s := h.kept (Below.refl _ _).drew

theorem undrew {w w' : World} (h : Below w.drew.heap.size w.drew w') : Below w.heap.size w w' := ⟨h.os, h.tape, h.output, h.size, h.block⟩

/-- What stands in the field Init, and what it adds to the text. -/
def InitAt (w : World) (v : Value) (t : ByteArray) : Prop :=
  (v = .nilIface ∧ t = ⟨#[]⟩) ∨ ∃ (d e : Nat) (s : ByteArray), v = .iface 42 (.pointer (some ⟨d, 0, none⟩)) ∧ w.cell? ⟨d, 0, none⟩ = some (.iface 26 (.pointer (some ⟨e, 0, none⟩))) ∧ w.cell? ⟨e, 0, none⟩ = some (.string s) ∧ s.size ≤ 1099511627776 ∧ t = s ++ ⟨#[59, 32]⟩

/-- What stands in the field Else, and what it adds to the text. -/
def ElseAt (w : World) (v : Value) (t : ByteArray) : Prop :=
  (v = .nilIface ∧ t = ⟨#[]⟩) ∨
  (∃ (g : Nat) (s : ByteArray), v = .iface 30 (.pointer (some ⟨g, 0, none⟩)) ∧ Hid (BlockAt w g s) ∧ s.size ≤ 1099511627776 ∧ t = ⟨#[32, 101, 108, 115, 101, 32]⟩ ++ (⟨#[123]⟩ ++ s ++ ⟨#[125]⟩)) ∨
  (∃ (g : Nat) (s : ByteArray), v = .iface 25 (.pointer (some ⟨g, 0, none⟩)) ∧ Hid (∀ w1, Below w.heap.size w w1 → Calls Eavg.prog 8 #[.pointer (some ⟨g, 0, none⟩)] w1 fun e w' => e = .returned (.string s) ∧ Below w1.heap.size w1 w') ∧ s.size ≤ 1099511627776 ∧
    t = ⟨#[32, 101, 108, 115, 101, 32]⟩ ++ s)

theorem if_tail (b c bb : Nat) (w : World) (cond body : ByteArray)
    (hc : w.cell? ⟨b, 2, none⟩ = some (.iface 26 (.pointer (some ⟨c, 0, none⟩)))) (hcc : w.cell? ⟨c, 0, none⟩ = some (.string cond)) (hb : w.cell? ⟨b, 3, none⟩ = some (.pointer (some ⟨bb, 0, none⟩))) (hbb : BlockAt w bb body) {w1 : World} (h1 : Below w.heap.size w w1) :
    w1.cell? ⟨b, 2, none⟩ = some (.iface 26 (.pointer (some ⟨c, 0, none⟩))) ∧ w1.cell? ⟨c, 0, none⟩ = some (.string cond) ∧ w1.cell? ⟨b, 3, none⟩ = some (.pointer (some ⟨bb, 0, none⟩)) ∧ BlockAt w1 bb body :=
  ⟨cell_kept h1 hc, cell_kept h1 hcc, cell_kept h1 hb, hbb.kept h1⟩

set_option maxHeartbeats 400000 in
theorem if_nn (b c bb : Nat) (w : World) (cond body : ByteArray) (hi : w.cell? ⟨b, 1, none⟩ = some .nilIface)
    (hc : w.cell? ⟨b, 2, none⟩ = some (.iface 26 (.pointer (some ⟨c, 0, none⟩)))) (hcc : w.cell? ⟨c, 0, none⟩ = some (.string cond)) (hb : w.cell? ⟨b, 3, none⟩ = some (.pointer (some ⟨bb, 0, none⟩))) (hbb : BlockAt w bb body)
    (he : w.cell? ⟨b, 4, none⟩ = some .nilIface) (sc : cond.size ≤ 1099511627776) (sb : body.size ≤ 1099511627776) :
    Calls Eavg.prog 8 #[.pointer (some ⟨b, 0, none⟩)] w fun e w' => e = .returned (.string (⟨#[105, 102, 32]⟩ ++ ⟨#[]⟩ ++ cond ++ ⟨#[32]⟩ ++ (⟨#[123]⟩ ++ body ++ ⟨#[125]⟩) ++ ⟨#[]⟩)) ∧ Below w.heap.size w w' := by
  have hm := m_ident
  have a1 : ¬ 9223372036854775807 < 3 + cond.size := by omega
  have a2 : ¬ 9223372036854775807 < 3 + cond.size + 1 := by omega
  have a3 : ¬ 9223372036854775807 < 3 + cond.size + 1 + (1 + body.size + 1) := by omega
  go_enter Eavg.func8, Eavg.ntmps8
  go_wp2_with fail
  go_region_held3 (fun w' => w'.cell? ⟨b, 2, none⟩ = some (.iface 26 (.pointer (some ⟨c, 0, none⟩))) ∧ w'.cell? ⟨b, 3, none⟩ = some (.pointer (some ⟨bb, 0, none⟩)))
   (first | exact ⟨hc, hb⟩ | exact ⟨cell_kept (w := w) (undrew hbel) hc, cell_kept (w := w) (undrew hbel) hb⟩) (first
    | (go_at_call 36; refine (ident_string _ _ _ (by exact hcc)).mono ?_; rintro e w' ⟨rfl, rfl⟩)
    | (go_at_call 11; refine (block_string _ _ _ (by exact hbb.drew) (by omega)).mono ?_; rintro e w' ⟨rfl, hbel⟩))
  go_wp2
  go_ret
  exact ⟨rfl, undrew hbel⟩

set_option maxHeartbeats 400000 in
theorem if_nb (b c bb : Nat) (w : World) (cond body : ByteArray) (hi : w.cell? ⟨b, 1, none⟩ = some .nilIface)
    (hc : w.cell? ⟨b, 2, none⟩ = some (.iface 26 (.pointer (some ⟨c, 0, none⟩)))) (hcc : w.cell? ⟨c, 0, none⟩ = some (.string cond)) (hb : w.cell? ⟨b, 3, none⟩ = some (.pointer (some ⟨bb, 0, none⟩))) (hbb : BlockAt w bb body)
    (y : ByteArray) (g : Nat) (he : w.cell? ⟨b, 4, none⟩ = some (.iface 30 (.pointer (some ⟨g, 0, none⟩)))) (HE : Hid (BlockAt w g y)) (sy : y.size ≤ 1099511627776) (sc : cond.size ≤ 1099511627776) (sb : body.size ≤ 1099511627776) :
    Calls Eavg.prog 8 #[.pointer (some ⟨b, 0, none⟩)] w fun e w' => e = .returned (.string (⟨#[105, 102, 32]⟩ ++ ⟨#[]⟩ ++ cond ++ ⟨#[32]⟩ ++ (⟨#[123]⟩ ++ body ++ ⟨#[125]⟩) ++ (⟨#[32, 101, 108, 115, 101, 32]⟩ ++ (⟨#[123]⟩ ++ y ++ ⟨#[125]⟩)))) ∧ Below w.heap.size w w' := by
  have hm := m_ident
  have hm2 := m_block
  have a1 : ¬ 9223372036854775807 < 3 + cond.size := by omega
  have a2 : ¬ 9223372036854775807 < 3 + cond.size + 1 := by omega
  have a3 : ¬ 9223372036854775807 < 3 + cond.size + 1 + (1 + body.size + 1) := by omega
  have a4 : ¬ 9223372036854775807 < 6 + (1 + y.size + 1) := by omega
  have a5 : ¬ 9223372036854775807 < 3 + cond.size + 1 + (1 + body.size + 1) + (6 + (1 + y.size + 1)) := by omega
  go_enter Eavg.func8, Eavg.ntmps8
  go_wp2_with fail
  refine (block_string _ _ _ HE.out (by omega)).mono ?_
  rintro e2 w1 ⟨rfl, hb1⟩
  obtain ⟨hc1, hcc1, hb2, hbb1⟩ := if_tail _ _ _ _ _ _ hc hcc hb hbb hb1
  clear hc hcc hb hbb HE hi he
  go_wp2_with fail
  go_region_held3 (fun w' => w'.cell? ⟨b, 2, none⟩ = some (.iface 26 (.pointer (some ⟨c, 0, none⟩))) ∧ w'.cell? ⟨b, 3, none⟩ = some (.pointer (some ⟨bb, 0, none⟩)))
   (first | exact ⟨hc1, hb2⟩ | exact ⟨cell_kept (w := w1) (undrew hbel) hc1, cell_kept (w := w1) (undrew hbel) hb2⟩) (first
    | (go_at_call 36; refine (ident_string _ _ _ (by exact hcc1)).mono ?_; rintro e w' ⟨rfl, rfl⟩)
    | (go_at_call 11; refine (block_string _ _ _ (by exact hbb1.drew) (by omega)).mono ?_; rintro e w' ⟨rfl, hbel⟩))
  go_wp2
  go_ret
  exact ⟨rfl, hb1.trans ((undrew hbel).mono hb1.size)⟩

set_option maxHeartbeats 400000 in
theorem if_ni (b c bb : Nat) (w : World) (cond body : ByteArray) (hi : w.cell? ⟨b, 1, none⟩ = some .nilIface)
    (hc : w.cell? ⟨b, 2, none⟩ = some (.iface 26 (.pointer (some ⟨c, 0, none⟩)))) (hcc : w.cell? ⟨c, 0, none⟩ = some (.string cond)) (hb : w.cell? ⟨b, 3, none⟩ = some (.pointer (some ⟨bb, 0, none⟩))) (hbb : BlockAt w bb body)
    (y : ByteArray) (g : Nat) (he : w.cell? ⟨b, 4, none⟩ = some (.iface 25 (.pointer (some ⟨g, 0, none⟩)))) (HE : Hid (Calls Eavg.prog 8 #[.pointer (some ⟨g, 0, none⟩)] w fun e w' => e = .returned (.string y) ∧ Below w.heap.size w w')) (sy : y.size ≤ 1099511627776) (sc : cond.size ≤ 1099511627776) (sb : body.size ≤ 1099511627776) :
    Calls Eavg.prog 8 #[.pointer (some ⟨b, 0, none⟩)] w fun e w' => e = .returned (.string (⟨#[105, 102, 32]⟩ ++ ⟨#[]⟩ ++ cond ++ ⟨#[32]⟩ ++ (⟨#[123]⟩ ++ body ++ ⟨#[125]⟩) ++ (⟨#[32, 101, 108, 115, 101, 32]⟩ ++ y))) ∧ Below w.heap.size w w' := by
  have hm := m_ident
  have hm2 := m_if
  have a1 : ¬ 9223372036854775807 < 3 + cond.size := by omega
  have a2 : ¬ 9223372036854775807 < 3 + cond.size + 1 := by omega
  have a3 : ¬ 9223372036854775807 < 3 + cond.size + 1 + (1 + body.size + 1) := by omega
  have a4 : ¬ 9223372036854775807 < 6 + y.size := by omega
  have a5 : ¬ 9223372036854775807 < 3 + cond.size + 1 + (1 + body.size + 1) + (6 + y.size) := by omega
  go_enter Eavg.func8, Eavg.ntmps8
  go_wp2_with fail
  refine HE.out.mono ?_
  rintro e2 w1 ⟨rfl, hb1⟩
  obtain ⟨hc1, hcc1, hb2, hbb1⟩ := if_tail _ _ _ _ _ _ hc hcc hb hbb hb1
  clear hc hcc hb hbb HE hi he
  go_wp2_with fail
  go_region_held3 (fun w' => w'.cell? ⟨b, 2, none⟩ = some (.iface 26 (.pointer (some ⟨c, 0, none⟩))) ∧ w'.cell? ⟨b, 3, none⟩ = some (.pointer (some ⟨bb, 0, none⟩)))
   (first | exact ⟨hc1, hb2⟩ | exact ⟨cell_kept (w := w1) (undrew hbel) hc1, cell_kept (w := w1) (undrew hbel) hb2⟩) (first
    | (go_at_call 36; refine (ident_string _ _ _ (by exact hcc1)).mono ?_; rintro e w' ⟨rfl, rfl⟩)
    | (go_at_call 11; refine (block_string _ _ _ (by exact hbb1.drew) (by omega)).mono ?_; rintro e w' ⟨rfl, hbel⟩))
  go_wp2
  go_ret
  exact ⟨rfl, hb1.trans ((undrew hbel).mono hb1.size)⟩

set_option maxHeartbeats 400000 in
theorem if_sn (b c bb : Nat) (w : World) (cond body : ByteArray) (x : ByteArray) (d e : Nat) (hi : w.cell? ⟨b, 1, none⟩ = some (.iface 42 (.pointer (some ⟨d, 0, none⟩)))) (hx : w.cell? ⟨d, 0, none⟩ = some (.iface 26 (.pointer (some ⟨e, 0, none⟩)))) (hy : w.cell? ⟨e, 0, none⟩ = some (.string x)) (sx : x.size ≤ 1099511627776)
    (hc : w.cell? ⟨b, 2, none⟩ = some (.iface 26 (.pointer (some ⟨c, 0, none⟩)))) (hcc : w.cell? ⟨c, 0, none⟩ = some (.string cond)) (hb : w.cell? ⟨b, 3, none⟩ = some (.pointer (some ⟨bb, 0, none⟩))) (hbb : BlockAt w bb body)
    (he : w.cell? ⟨b, 4, none⟩ = some .nilIface) (sc : cond.size ≤ 1099511627776) (sb : body.size ≤ 1099511627776) :
    Calls Eavg.prog 8 #[.pointer (some ⟨b, 0, none⟩)] w fun e w' => e = .returned (.string (⟨#[105, 102, 32]⟩ ++ (x ++ ⟨#[59, 32]⟩) ++ cond ++ ⟨#[32]⟩ ++ (⟨#[123]⟩ ++ body ++ ⟨#[125]⟩) ++ ⟨#[]⟩)) ∧ Below w.heap.size w w' := by
  have hm := m_ident
  have hm1 := m_expr
  have a0 : ¬ 9223372036854775807 < x.size + 2 := by omega
  have a00 : ¬ 9223372036854775807 < 3 + (x.size + 2) := by omega
  have a1 : ¬ 9223372036854775807 < 3 + (x.size + 2) + cond.size := by omega
  have a2 : ¬ 9223372036854775807 < 3 + (x.size + 2) + cond.size + 1 := by omega
  have a3 : ¬ 9223372036854775807 < 3 + (x.size + 2) + cond.size + 1 + (1 + body.size + 1) := by omega
  go_enter Eavg.func8, Eavg.ntmps8
  go_wp2_with fail
  refine (expr_string _ _ _ _ hx hy).mono ?_
  rintro e1 w0 ⟨rfl, hw0⟩
  subst hw0
  go_wp2_with fail
  go_region_held3 (fun w' => w'.cell? ⟨b, 2, none⟩ = some (.iface 26 (.pointer (some ⟨c, 0, none⟩))) ∧ w'.cell? ⟨b, 3, none⟩ = some (.pointer (some ⟨bb, 0, none⟩)))
   (first | exact ⟨hc, hb⟩ | exact ⟨cell_kept (w := w0) (undrew hbel) hc, cell_kept (w := w0) (undrew hbel) hb⟩) (first
    | (go_at_call 36; refine (ident_string _ _ _ (by exact hcc)).mono ?_; rintro e w' ⟨rfl, rfl⟩)
    | (go_at_call 11; refine (block_string _ _ _ (by exact hbb.drew) (by omega)).mono ?_; rintro e w' ⟨rfl, hbel⟩))
  go_wp2
  go_ret
  exact ⟨rfl, undrew hbel⟩

set_option maxHeartbeats 400000 in
theorem if_sb (b c bb : Nat) (w : World) (cond body : ByteArray) (x : ByteArray) (d e : Nat) (hi : w.cell? ⟨b, 1, none⟩ = some (.iface 42 (.pointer (some ⟨d, 0, none⟩)))) (hx : w.cell? ⟨d, 0, none⟩ = some (.iface 26 (.pointer (some ⟨e, 0, none⟩)))) (hy : w.cell? ⟨e, 0, none⟩ = some (.string x)) (sx : x.size ≤ 1099511627776)
    (hc : w.cell? ⟨b, 2, none⟩ = some (.iface 26 (.pointer (some ⟨c, 0, none⟩)))) (hcc : w.cell? ⟨c, 0, none⟩ = some (.string cond)) (hb : w.cell? ⟨b, 3, none⟩ = some (.pointer (some ⟨bb, 0, none⟩))) (hbb : BlockAt w bb body)
    (y : ByteArray) (g : Nat) (he : w.cell? ⟨b, 4, none⟩ = some (.iface 30 (.pointer (some ⟨g, 0, none⟩)))) (HE : Hid (BlockAt w g y)) (sy : y.size ≤ 1099511627776) (sc : cond.size ≤ 1099511627776) (sb : body.size ≤ 1099511627776) :
    Calls Eavg.prog 8 #[.pointer (some ⟨b, 0, none⟩)] w fun e w' => e = .returned (.string (⟨#[105, 102, 32]⟩ ++ (x ++ ⟨#[59, 32]⟩) ++ cond ++ ⟨#[32]⟩ ++ (⟨#[123]⟩ ++ body ++ ⟨#[125]⟩) ++ (⟨#[32, 101, 108, 115, 101, 32]⟩ ++ (⟨#[123]⟩ ++ y ++ ⟨#[125]⟩)))) ∧ Below w.heap.size w w' := by
  have hm := m_ident
  have hm1 := m_expr
  have a0 : ¬ 9223372036854775807 < x.size + 2 := by omega
  have a00 : ¬ 9223372036854775807 < 3 + (x.size + 2) := by omega
  have hm2 := m_block
  have a1 : ¬ 9223372036854775807 < 3 + (x.size + 2) + cond.size := by omega
  have a2 : ¬ 9223372036854775807 < 3 + (x.size + 2) + cond.size + 1 := by omega
  have a3 : ¬ 9223372036854775807 < 3 + (x.size + 2) + cond.size + 1 + (1 + body.size + 1) := by omega
  have a4 : ¬ 9223372036854775807 < 6 + (1 + y.size + 1) := by omega
  have a5 : ¬ 9223372036854775807 < 3 + (x.size + 2) + cond.size + 1 + (1 + body.size + 1) + (6 + (1 + y.size + 1)) := by omega
  go_enter Eavg.func8, Eavg.ntmps8
  go_wp2_with fail
  refine (expr_string _ _ _ _ hx hy).mono ?_
  rintro e1 w0 ⟨rfl, hw0⟩
  subst hw0
  go_wp2_with fail
  refine (block_string _ _ _ HE.out (by omega)).mono ?_
  rintro e2 w1 ⟨rfl, hb1⟩
  obtain ⟨hc1, hcc1, hb2, hbb1⟩ := if_tail _ _ _ _ _ _ hc hcc hb hbb hb1
  clear hc hcc hb hbb HE hi he hx hy
  go_wp2_with fail
  go_region_held3 (fun w' => w'.cell? ⟨b, 2, none⟩ = some (.iface 26 (.pointer (some ⟨c, 0, none⟩))) ∧ w'.cell? ⟨b, 3, none⟩ = some (.pointer (some ⟨bb, 0, none⟩)))
   (first | exact ⟨hc1, hb2⟩ | exact ⟨cell_kept (w := w1) (undrew hbel) hc1, cell_kept (w := w1) (undrew hbel) hb2⟩) (first
    | (go_at_call 36; refine (ident_string _ _ _ (by exact hcc1)).mono ?_; rintro e w' ⟨rfl, rfl⟩)
    | (go_at_call 11; refine (block_string _ _ _ (by exact hbb1.drew) (by omega)).mono ?_; rintro e w' ⟨rfl, hbel⟩))
  go_wp2
  go_ret
  exact ⟨rfl, hb1.trans ((undrew hbel).mono hb1.size)⟩

set_option maxHeartbeats 400000 in
theorem if_si (b c bb : Nat) (w : World) (cond body : ByteArray) (x : ByteArray) (d e : Nat) (hi : w.cell? ⟨b, 1, none⟩ = some (.iface 42 (.pointer (some ⟨d, 0, none⟩)))) (hx : w.cell? ⟨d, 0, none⟩ = some (.iface 26 (.pointer (some ⟨e, 0, none⟩)))) (hy : w.cell? ⟨e, 0, none⟩ = some (.string x)) (sx : x.size ≤ 1099511627776)
    (hc : w.cell? ⟨b, 2, none⟩ = some (.iface 26 (.pointer (some ⟨c, 0, none⟩)))) (hcc : w.cell? ⟨c, 0, none⟩ = some (.string cond)) (hb : w.cell? ⟨b, 3, none⟩ = some (.pointer (some ⟨bb, 0, none⟩))) (hbb : BlockAt w bb body)
    (y : ByteArray) (g : Nat) (he : w.cell? ⟨b, 4, none⟩ = some (.iface 25 (.pointer (some ⟨g, 0, none⟩)))) (HE : Hid (Calls Eavg.prog 8 #[.pointer (some ⟨g, 0, none⟩)] w fun e w' => e = .returned (.string y) ∧ Below w.heap.size w w')) (sy : y.size ≤ 1099511627776) (sc : cond.size ≤ 1099511627776) (sb : body.size ≤ 1099511627776) :
    Calls Eavg.prog 8 #[.pointer (some ⟨b, 0, none⟩)] w fun e w' => e = .returned (.string (⟨#[105, 102, 32]⟩ ++ (x ++ ⟨#[59, 32]⟩) ++ cond ++ ⟨#[32]⟩ ++ (⟨#[123]⟩ ++ body ++ ⟨#[125]⟩) ++ (⟨#[32, 101, 108, 115, 101, 32]⟩ ++ y))) ∧ Below w.heap.size w w' := by
  have hm := m_ident
  have hm1 := m_expr
  have a0 : ¬ 9223372036854775807 < x.size + 2 := by omega
  have a00 : ¬ 9223372036854775807 < 3 + (x.size + 2) := by omega
  have hm2 := m_if
  have a1 : ¬ 9223372036854775807 < 3 + (x.size + 2) + cond.size := by omega
  have a2 : ¬ 9223372036854775807 < 3 + (x.size + 2) + cond.size + 1 := by omega
  have a3 : ¬ 9223372036854775807 < 3 + (x.size + 2) + cond.size + 1 + (1 + body.size + 1) := by omega
  have a4 : ¬ 9223372036854775807 < 6 + y.size := by omega
  have a5 : ¬ 9223372036854775807 < 3 + (x.size + 2) + cond.size + 1 + (1 + body.size + 1) + (6 + y.size) := by omega
  go_enter Eavg.func8, Eavg.ntmps8
  go_wp2_with fail
  refine (expr_string _ _ _ _ hx hy).mono ?_
  rintro e1 w0 ⟨rfl, hw0⟩
  subst hw0
  go_wp2_with fail
  refine HE.out.mono ?_
  rintro e2 w1 ⟨rfl, hb1⟩
  obtain ⟨hc1, hcc1, hb2, hbb1⟩ := if_tail _ _ _ _ _ _ hc hcc hb hbb hb1
  clear hc hcc hb hbb HE hi he hx hy
  go_wp2_with fail
  go_region_held3 (fun w' => w'.cell? ⟨b, 2, none⟩ = some (.iface 26 (.pointer (some ⟨c, 0, none⟩))) ∧ w'.cell? ⟨b, 3, none⟩ = some (.pointer (some ⟨bb, 0, none⟩)))
   (first | exact ⟨hc1, hb2⟩ | exact ⟨cell_kept (w := w1) (undrew hbel) hc1, cell_kept (w := w1) (undrew hbel) hb2⟩) (first
    | (go_at_call 36; refine (ident_string _ _ _ (by exact hcc1)).mono ?_; rintro e w' ⟨rfl, rfl⟩)
    | (go_at_call 11; refine (block_string _ _ _ (by exact hbb1.drew) (by omega)).mono ?_; rintro e w' ⟨rfl, hbel⟩))
  go_wp2
  go_ret
  exact ⟨rfl, hb1.trans ((undrew hbel).mono hb1.size)⟩

/-- The text of an if statement out of its parts' texts. -/
def ifText (it cond body et : ByteArray) : ByteArray := ⟨#[105, 102, 32]⟩ ++ it ++ cond ++ ⟨#[32]⟩ ++ (⟨#[123]⟩ ++ body ++ ⟨#[125]⟩) ++ et

/-- An IfStmt at b: its five fields. -/
structure IfAt (w : World) (b : Nat) (it cond body et : ByteArray) : Prop where
  ex : ∃ (c bb : Nat) (iv ev : Value), w.cell? ⟨b, 1, none⟩ = some iv ∧ InitAt w iv it ∧ w.cell? ⟨b, 2, none⟩ = some (.iface 26 (.pointer (some ⟨c, 0, none⟩))) ∧ w.cell? ⟨c, 0, none⟩ = some (.string cond) ∧
    w.cell? ⟨b, 3, none⟩ = some (.pointer (some ⟨bb, 0, none⟩)) ∧ BlockAt w bb body ∧ w.cell? ⟨b, 4, none⟩ = some ev ∧ ElseAt w ev et

theorem IfAt.kept {w w' : World} {b : Nat} {it cond body et : ByteArray} (h : IfAt w b it cond body et) (hb : Below w.heap.size w w') : IfAt w' b it cond body et := by
  obtain ⟨c, bb, iv, ev, h1, hI, h2, h3, h4, h5, h6, hE⟩ := h
  refine ⟨c, bb, iv, ev, cell_kept hb h1, ?_, cell_kept hb h2, cell_kept hb h3, cell_kept hb h4, h5.kept hb, cell_kept hb h6, ?_⟩
  · rcases hI with h | ⟨d, e, x, rfl, hx, hy, r⟩
    · exact .inl h
    · exact .inr ⟨d, e, x, rfl, cell_kept hb hx, cell_kept hb hy, r⟩
  · rcases hE with h | ⟨g, y, rfl, HE, r⟩ | ⟨g, y, rfl, HE, r⟩
    · exact .inl h
    · exact .inr (.inl ⟨g, y, rfl, BlockAt.kept HE.out hb, r⟩)
    · exact .inr (.inr ⟨g, y, rfl, fun w1 h1 => HE.out w1 (hb.trans (h1.mono hb.size)), r⟩)

theorem if_string (b : Nat) (w : World) (it cond body et : ByteArray) (h : IfAt w b it cond body et) (sc : cond.size ≤ 1099511627776) (sb : body.size ≤ 1099511627776) :
    Calls Eavg.prog 8 #[.pointer (some ⟨b, 0, none⟩)] w fun e w' => e = .returned (.string (ifText it cond body et)) ∧ Below w.heap.size w w' := by
  obtain ⟨c, bb, iv, ev, h1, hI, h2, h3, h4, h5, h6, hE⟩ := h
  unfold ifText
  rcases hI with ⟨rfl, rfl⟩ | ⟨d, e, x, rfl, hx, hy, sx, rfl⟩ <;> rcases hE with ⟨rfl, rfl⟩ | ⟨g, y, rfl, HE, sy, rfl⟩ | ⟨g, y, rfl, HE, sy, rfl⟩
  · exact if_nn b c bb w cond body h1 h2 h3 h4 h5 h6 sc sb
  · exact if_nb b c bb w cond body h1 h2 h3 h4 h5 y g h6 HE sy sc sb
  · exact if_ni b c bb w cond body h1 h2 h3 h4 h5 y g h6 (HE.out w (Below.refl _ _)) sy sc sb
  · exact if_sn b c bb w cond body x d e h1 hx hy sx h2 h3 h4 h5 h6 sc sb
  · exact if_sb b c bb w cond body x d e h1 hx hy sx h2 h3 h4 h5 y g h6 HE sy sc sb
  · exact if_si b c bb w cond body x d e h1 hx hy sx h2 h3 h4 h5 y g h6 (HE.out w (Below.refl _ _)) sy sc sb

end Go.Proofs.Yoeavw
