import Derived.Test.YoeavwPlain
namespace Go.Proofs.Yoeavw
open Go.RowKit

/-- zzBytes_FnIfStmtStringInit: some bool, the world as it was. -/
theorem bytes_init (a0 a1 a2 a4 : ByteArray) (a3 : Bool) (w : World) (w0 : a0.size ≤ maxLen) (w1 : a1.size ≤ maxLen) (w2 : a2.size ≤ maxLen) (w4 : a4.size ≤ maxLen) :
    Calls Eavg.prog 9 #[.string a0, .string a1, .string a2, .bool a3, .string a4] w fun e w' => ∃ r : Bool, e = .returned (.bool r) ∧ w' = w := by
  unfold maxLen at w0 w1 w2 w4
  go_enter Eavg.func9, Eavg.ntmps9
  go_wp2
  all_goals go_ret
  all_goals exact ⟨_, rfl, rfl⟩

set_option maxHeartbeats 400000 in
theorem mkif_ff (x cond body y : ByteArray) (w : World) :
    Calls Eavg.prog 10 #[.bool false, .string x, .string cond, .string body, .bool false, .string y] w fun e w' =>
      ∃ b : Nat, e = .returned (.pointer (some ⟨b, 0, none⟩)) ∧ IfAt w' b ⟨#[]⟩ cond body ⟨#[]⟩ ∧ Below w.heap.size w w' := by
  go_enter Eavg.func10, Eavg.ntmps10
  go_wp2
  go_ret
  refine ⟨w.heap.size + 5, rfl, ⟨w.heap.size, w.heap.size + 4, .nilIface, .nilIface, ?_, Or.inl ⟨rfl, rfl⟩, ?_, ?_, ?_, ⟨w.heap.size + 3, w.heap.size + 2, w.heap.size + 1, ?_, ?_, ?_, ?_⟩, ?_, Or.inl ⟨rfl, rfl⟩⟩, ?_⟩
  all_goals first
    | (go_simp; done)
    | (repeat' (first
        | (with_reducible exact Below.refl _ _)
        | (with_reducible refine Below.alloc ?_ ?_ _)
        | (with_reducible refine Below.setCell ?_ ?_ _)
        | (simp; done)
        | (simp; omega)))

set_option maxHeartbeats 400000 in
theorem mkif_ft (x cond body y : ByteArray) (w : World) (sy : y.size ≤ 1099511627776) :
    Calls Eavg.prog 10 #[.bool false, .string x, .string cond, .string body, .bool true, .string y] w fun e w' =>
      ∃ b : Nat, e = .returned (.pointer (some ⟨b, 0, none⟩)) ∧ IfAt w' b ⟨#[]⟩ cond body (elseBlockText y) ∧ Below w.heap.size w w' := by
  go_enter Eavg.func10, Eavg.ntmps10
  go_wp2
  go_ret
  refine ⟨w.heap.size + 5, rfl, ⟨w.heap.size, w.heap.size + 4, .nilIface, .iface 30 (.pointer (some ⟨w.heap.size + 9, 0, none⟩)), ?_, Or.inl ⟨rfl, rfl⟩, ?_, ?_, ?_, ⟨w.heap.size + 3, w.heap.size + 2, w.heap.size + 1, ?_, ?_, ?_, ?_⟩, ?_, Or.inr (Or.inl ⟨w.heap.size + 9, y, rfl, ⟨w.heap.size + 8, w.heap.size + 7, w.heap.size + 6, ?_, ?_, ?_, ?_⟩, sy, rfl⟩)⟩, ?_⟩
  all_goals first
    | (go_simp; done)
    | (repeat' (first
        | (with_reducible exact Below.refl _ _)
        | (with_reducible refine Below.alloc ?_ ?_ _)
        | (with_reducible refine Below.setCell ?_ ?_ _)
        | (simp; done)
        | (simp; omega)))

set_option maxHeartbeats 400000 in
theorem mkif_tf (x cond body y : ByteArray) (w : World) (sx : x.size ≤ 1099511627776) :
    Calls Eavg.prog 10 #[.bool true, .string x, .string cond, .string body, .bool false, .string y] w fun e w' =>
      ∃ b : Nat, e = .returned (.pointer (some ⟨b, 0, none⟩)) ∧ IfAt w' b (x ++ ⟨#[59, 32]⟩) cond body ⟨#[]⟩ ∧ Below w.heap.size w w' := by
  go_enter Eavg.func10, Eavg.ntmps10
  go_wp2
  go_ret
  refine ⟨w.heap.size + 5, rfl, ⟨w.heap.size, w.heap.size + 4, .iface 42 (.pointer (some ⟨w.heap.size + 7, 0, none⟩)), .nilIface, ?_, Or.inr ⟨w.heap.size + 7, w.heap.size + 6, x, rfl, ?_, ?_, sx, rfl⟩, ?_, ?_, ?_, ⟨w.heap.size + 3, w.heap.size + 2, w.heap.size + 1, ?_, ?_, ?_, ?_⟩, ?_, Or.inl ⟨rfl, rfl⟩⟩, ?_⟩
  all_goals first
    | (go_simp; done)
    | (repeat' (first
        | (with_reducible exact Below.refl _ _)
        | (with_reducible refine Below.alloc ?_ ?_ _)
        | (with_reducible refine Below.setCell ?_ ?_ _)
        | (simp; done)
        | (simp; omega)))

set_option maxHeartbeats 400000 in
theorem mkif_tt (x cond body y : ByteArray) (w : World) (sx : x.size ≤ 1099511627776) (sy : y.size ≤ 1099511627776) :
    Calls Eavg.prog 10 #[.bool true, .string x, .string cond, .string body, .bool true, .string y] w fun e w' =>
      ∃ b : Nat, e = .returned (.pointer (some ⟨b, 0, none⟩)) ∧ IfAt w' b (x ++ ⟨#[59, 32]⟩) cond body (elseBlockText y) ∧ Below w.heap.size w w' := by
  go_enter Eavg.func10, Eavg.ntmps10
  go_wp2
  go_ret
  refine ⟨w.heap.size + 5, rfl, ⟨w.heap.size, w.heap.size + 4, .iface 42 (.pointer (some ⟨w.heap.size + 7, 0, none⟩)), .iface 30 (.pointer (some ⟨w.heap.size + 11, 0, none⟩)), ?_, Or.inr ⟨w.heap.size + 7, w.heap.size + 6, x, rfl, ?_, ?_, sx, rfl⟩, ?_, ?_, ?_, ⟨w.heap.size + 3, w.heap.size + 2, w.heap.size + 1, ?_, ?_, ?_, ?_⟩, ?_, Or.inr (Or.inl ⟨w.heap.size + 11, y, rfl, ⟨w.heap.size + 10, w.heap.size + 9, w.heap.size + 8, ?_, ?_, ?_, ?_⟩, sy, rfl⟩)⟩, ?_⟩
  all_goals first
    | (go_simp; done)
    | (repeat' (first
        | (with_reducible exact Below.refl _ _)
        | (with_reducible refine Below.alloc ?_ ?_ _)
        | (with_reducible refine Below.setCell ?_ ?_ _)
        | (simp; done)
        | (simp; omega)))

theorem mkif_f (he : Bool) (x cond body y : ByteArray) (w : World) (sy : y.size ≤ 1099511627776) :
    Calls Eavg.prog 10 #[.bool false, .string x, .string cond, .string body, .bool he, .string y] w fun e w' =>
      ∃ b : Nat, e = .returned (.pointer (some ⟨b, 0, none⟩)) ∧ IfAt w' b ⟨#[]⟩ cond body (elseT he y) ∧ Below w.heap.size w w' := by
  cases he
  · exact mkif_ff x cond body y w
  · exact mkif_ft x cond body y w sy

theorem mkif_t (he : Bool) (x cond body y : ByteArray) (w : World) (sx : x.size ≤ 1099511627776) (sy : y.size ≤ 1099511627776) :
    Calls Eavg.prog 10 #[.bool true, .string x, .string cond, .string body, .bool he, .string y] w fun e w' =>
      ∃ b : Nat, e = .returned (.pointer (some ⟨b, 0, none⟩)) ∧ IfAt w' b (x ++ ⟨#[59, 32]⟩) cond body (elseT he y) ∧ Below w.heap.size w w' := by
  cases he
  · exact mkif_tf x cond body y w sx
  · exact mkif_tt x cond body y w sx sy

end Go.Proofs.Yoeavw
