import Derived.Test.YoeavwRows
import Derived.WalkKit
import Derived.ProofKit
namespace Go.Proofs.Yoeavw
open Go.RowKit

theorem m_ident (a : Option Addr) (w : World) : (method 177 26 (.pointer a) "String").run Eavg.prog w = .ok (36, .pointer a) w := by kernel_rfl
theorem m_expr (a : Option Addr) (w : World) : (method 177 42 (.pointer a) "String").run Eavg.prog w = .ok (42, .pointer a) w := by kernel_rfl
theorem m_block (a : Option Addr) (w : World) : (method 177 30 (.pointer a) "String").run Eavg.prog w = .ok (11, .pointer a) w := by kernel_rfl
theorem m_if (a : Option Addr) (w : World) : (method 177 25 (.pointer a) "String").run Eavg.prog w = .ok (8, .pointer a) w := by kernel_rfl

theorem ident_string (b : Nat) (s : ByteArray) (w : World) (hc : w.cell? ⟨b, 0, none⟩ = some (.string s)) :
    Calls Eavg.prog 36 #[.pointer (some ⟨b, 0, none⟩)] w fun e w' => e = .returned (.string s) ∧ w' = w := by
  go_enter Eavg.func36, Eavg.ntmps36
  go_wp2
  go_ret
  exact ⟨rfl, rfl⟩

theorem expr_string (b c : Nat) (s : ByteArray) (w : World) (hx : w.cell? ⟨b, 0, none⟩ = some (.iface 26 (.pointer (some ⟨c, 0, none⟩)))) (hc : w.cell? ⟨c, 0, none⟩ = some (.string s)) :
    Calls Eavg.prog 42 #[.pointer (some ⟨b, 0, none⟩)] w fun e w' => e = .returned (.string s) ∧ w' = w := by
  have hm := m_ident
  go_enter Eavg.func42, Eavg.ntmps42
  go_wp2_with (go_at_call 36; refine (ident_string _ _ _ hc).mono ?_; rintro e w' ⟨rfl, rfl⟩)
  go_ret
  exact ⟨rfl, rfl⟩

theorem join_one (b : Nat) (cap : Nat) (s sep : ByteArray) (w : World) (hc : w.cell? ⟨b, 0, none⟩ = some (.string s)) :
    Calls Eavg.prog 12 #[.slice (some ⟨b, 0, none⟩) 1 cap, .string sep] w fun e w' => e = .returned (.string s) ∧ w' = w := by
  go_enter Eavg.func12, Eavg.ntmps12
  go_wp2
  go_ret
  exact ⟨rfl, rfl⟩

/-- What a block made by zzBlock is: a BlockStmt at b whose one statement is the identifier s. -/
structure BlockAt (w : World) (b : Nat) (s : ByteArray) : Prop where
  ex : ∃ c d e : Nat, w.cell? ⟨b, 0, none⟩ = some (.slice (some ⟨c, 0, none⟩) 1 1) ∧ w.cell? ⟨c, 0, none⟩ = some (.iface 42 (.pointer (some ⟨d, 0, none⟩)))
    ∧ w.cell? ⟨d, 0, none⟩ = some (.iface 26 (.pointer (some ⟨e, 0, none⟩))) ∧ w.cell? ⟨e, 0, none⟩ = some (.string s)

theorem zzblock (s : ByteArray) (w : World) :
    Calls Eavg.prog 7 #[.string s] w fun e w' => e = .returned (.pointer (some ⟨w.heap.size + 3, 0, none⟩)) ∧ BlockAt w' (w.heap.size + 3) s ∧ Below w.heap.size w w' ∧ w'.heap.size = w.heap.size + 4 := by
  go_enter Eavg.func7, Eavg.ntmps7
  go_wp2
  go_ret
  refine ⟨rfl, ⟨w.heap.size + 2, w.heap.size + 1, w.heap.size, ?_, ?_, ?_, ?_⟩, ?_, ?_⟩
  · go_simp
  · go_simp
  · go_simp
  · go_simp
  · exact ((((Below.refl _ _).alloc (Nat.le_refl _) _).alloc (by simp) _).alloc (by simp; omega) _).alloc (by simp; omega) _
  · simp

theorem Eavg.info9 : (Eavg.prog.info? 9).map (fun i => (i.zero, i.size, i.bytes)) = some (some (.string ByteArray.empty), 1, 16) := by kernel_rfl

theorem owned_one {w : World} {base : Nat} {e : TypeId} {v u : Value} (h : w.ownsRow base e 1 v 1 [u]) :
    ∃ g cap : Nat, v = .slice (some ⟨g, 0, none⟩) 1 cap ∧ base ≤ g ∧ w.cell? ⟨g, 0, none⟩ = some u := by
  have h0 := h
  obtain ⟨_, ⟨_, h1⟩ | ⟨g, cap, cur, rfl, hg, _⟩⟩ := h
  · omega
  · exact ⟨g, cap, rfl, hg, by have := h0.cellAt 0 (by omega); simpa using this⟩

set_option maxHeartbeats 400000 in
theorem block_string (b : Nat) (s : ByteArray) (w : World) (hB : BlockAt w b s) (hs : s.size ≤ 1099511627776) :
    Calls Eavg.prog 11 #[.pointer (some ⟨b, 0, none⟩)] w fun e w' => e = .returned (.string (⟨#[123]⟩ ++ s ++ ⟨#[125]⟩)) ∧ Below w.heap.size w w' := by
  obtain ⟨c, d, e, h1, h2, h3, h4⟩ := hB
  have hm := m_expr
  obtain ⟨i0, hi, hz0, hz1, hz2⟩ := info_parts Eavg.info9
  go_enter Eavg.func11, Eavg.ntmps11
  go_wp2
  refine wp_loop_rounds 2 ?_
  rw [rounds_succ]
  go_wp2_with (first
    | (go_at_call 42; refine (expr_string _ _ _ _ h3 h4).mono ?_; rintro e w' ⟨rfl, rfl⟩)
    | (at_builtin; refine wpList_append_own _ rfl _ _ 22 rfl w'.heap.size 9 i0 (.string ByteArray.empty) 1 16 Eavg.underlying22 hi hz0 hz1 hz2 rfl (by decide) _ 0 [] rfl (World.ownsRow_nil _ _ _ _) ⟨w'.heap.size, 0, none⟩ 1 1 [.string s] rfl rfl ?c1 ?c2 ?c3 ?c4 ?c5 ?_))
  case c1 =>
    intro j u hj
    match j, hj with
    | 0, hj => simp at hj; subst hj; simp [Addr.add]
  case c2 => intro u hu; simp at hu; subst hu; rfl
  case c3 => unfold maxLen; omega
  case c4 => omega
  case c5 => simp
  intro v' w1 hown hgrow _
  obtain ⟨g, cap, rfl, hg, hcell⟩ := owned_one hown
  have hbel : Below w'.heap.size w' w1 := ((Below.refl _ w').alloc (Nat.le_refl _) _).grown hgrow (by simp) (by simp [Value.ownBlock])
  clear hown hgrow h1 h2 h3 h4
  go_wp2
  rw [rounds_succ]
  go_wp2_with (go_at_call 12; refine (join_one _ _ _ _ _ hcell).mono ?_; rintro e w' ⟨rfl, rfl⟩)
  go_ret
  exact ⟨rfl, hbel⟩
end Go.Proofs.Yoeavw
