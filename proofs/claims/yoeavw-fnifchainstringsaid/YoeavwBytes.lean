import Derived.Test.YoeavwRows
import Derived.WalkKit
import Derived.ProofKit
namespace Go.Proofs.Yoeavw
open Go.RowKit

/-- A slice of strings: 'len' cells from its address on hold the strings 'ss' (an empty one may have whatever address). -/
def StrRow (w : World) (ao : Option Addr) (len : Nat) (ss : List ByteArray) : Prop :=
  ss.length = len ∧ ∀ k, k < len → ∃ b off, ao = some ⟨b, off, none⟩ ∧ w.cell? ⟨b, off + k, none⟩ = some (.string (ss.getD k ByteArray.empty)) ∧ (ss.getD k ByteArray.empty).size ≤ 9223372036854775807

/-- Some bool is returned. -/
def SomeBool (e : Ending) : Prop := ∃ r : Bool, e = .returned (.bool r)

set_option maxHeartbeats 400000 in
/-- zzBytes_FnIfChainString: some bool, the world as it was. -/
theorem bytes_chain (a0 a1 : Option Addr) (l0 c0 l1 c1 : Nat) (s0 s1 : List ByteArray) (he : Bool) (y : ByteArray) (w : World) (h0 : StrRow w a0 l0 s0) (h1 : StrRow w a1 l1 s1) (sy : y.size ≤ 9223372036854775807)
    (b0 : l0 ≤ 9223372036854775807) (b1 : l1 ≤ 9223372036854775807) :
    Calls Eavg.prog 5 #[.slice a0 l0 c0, .slice a1 l1 c1, .bool he, .string y] w fun e w' => SomeBool e ∧ w' = w := by
  have H0 : Hid (StrRow w a0 l0 s0) := h0
  have H1 : Hid (StrRow w a1 l1 s1) := h1
  clear h0 h1
  by_cases g0 : l0 ≤ 1048576
  · go_enter Eavg.func5, Eavg.ntmps5
    go_wp2
    go_loop [9, 10] (fun t i => ∃ (k : Nat) (n : Int), k ≤ l0 ∧ i = .int .i64 k ∧ t = .int .i64 n ∧ 0 ≤ n ∧ n ≤ 1048576) (fun _ i => l0 - (intOf i).toNat)
    case atStart => exact ⟨0, _, Nat.zero_le _, rfl, rfl, by omega, by omega⟩
    case round =>
      obtain ⟨k, n, hk, rfl, rfl, n0, n1⟩ := hrel
      by_cases hlt : k < l0
      · obtain ⟨b, off, rfl, hc, hsz⟩ := H0.out.2 k hlt
        generalize s0.getD k ByteArray.empty = s at hc hsz
        clear H0 H1
        go_wp2
        · go_ret; exact ⟨⟨_, rfl⟩, rfl⟩
        · go_ret; exact ⟨⟨_, rfl⟩, rfl⟩
        go_round
        case rel => exact ⟨k + 1, _, by omega, by go_num, rfl, by omega, by omega⟩
        case measure => simp [intOf]; omega
      · clear H0
        by_cases g1 : l1 ≤ 1048576
        · by_cases g2 : n + l1 ≤ 1048576
          · go_wp2
            go_loop [9, 11] (fun t i => ∃ (k : Nat) (n : Int), k ≤ l1 ∧ i = .int .i64 k ∧ t = .int .i64 n ∧ 0 ≤ n ∧ n ≤ 1048576) (fun _ i => l1 - (intOf i).toNat)
            case atStart => exact ⟨0, _, Nat.zero_le _, rfl, rfl, by omega, by omega⟩
            case round =>
              obtain ⟨k2, n2, hk2, rfl, rfl, n20, n21⟩ := hrel
              by_cases hlt2 : k2 < l1
              · obtain ⟨b, off, rfl, hc, hsz⟩ := H1.out.2 k2 hlt2
                generalize s1.getD k2 ByteArray.empty = s at hc hsz
                clear H1
                go_wp2
                · go_ret; exact ⟨⟨_, rfl⟩, rfl⟩
                · go_ret; exact ⟨⟨_, rfl⟩, rfl⟩
                go_round
                case rel => exact ⟨k2 + 1, _, by omega, by go_num, rfl, by omega, by omega⟩
                case measure => simp [intOf]; omega
              · go_wp2
                all_goals (go_ret; exact ⟨⟨_, rfl⟩, rfl⟩)
          · go_wp2
            all_goals (go_ret; exact ⟨⟨_, rfl⟩, rfl⟩)
        · go_wp2
          all_goals (go_ret; exact ⟨⟨_, rfl⟩, rfl⟩)
  · go_enter Eavg.func5, Eavg.ntmps5
    go_wp2
    all_goals (go_ret; exact ⟨⟨_, rfl⟩, rfl⟩)
end Go.Proofs.Yoeavw
