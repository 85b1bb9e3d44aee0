import Derived.Test.YoeavwBytes
import Derived.Test.YoeavwPlain
import Derived.Lib.SliceRun
namespace Go.Proofs.Yoeavw
open Go.RowKit

theorem madeStrings (n : Nat) : (madeCells (Value.string ByteArray.empty).cells (n * 1)).toList = List.replicate n (Value.string ByteArray.empty) := by
  rw [Nat.mul_one]; exact toList_madeCells_one _ n

theorem nil22 (w : World) (a : Option Addr) (n c : Nat) : (binOp .eql 22 (.slice a n c) (.slice none 0 0)).run Eavg.prog w = .ok (.bool a.isNone) w :=
  Lib.run_eql_slice_nil w 22 9 a n c 0 0 Eavg.underlying22

set_option maxHeartbeats 400000 in
theorem clone_some (x : Addr) (len cap : Nat) (ss : List ByteArray) (w : World) (h0 : StrRow w (some x) len ss) (b0 : len ≤ 65536) :
    Calls Eavg.prog 6 #[.slice (some x) len cap] w fun e w' => (∃ ao, e = .returned (.slice ao len len) ∧ StrRow w' ao len ss) ∧ Below w.heap.size w w' := by
  have H0 : Hid (StrRow w (some x) len ss) := h0
  clear h0
  have q := nil22
  obtain ⟨i0, hi, hz0, hz1, hz2⟩ := info_parts Eavg.info9
  go_enter Eavg.func6, Eavg.ntmps6
  go_wp2_with (at_make; refine wpList_make_full _ rfl _ _ 22 rfl w.heap.size 9 i0 (.string ByteArray.empty) 1 Eavg.underlying22 hi hz0 hz1 _ _ _ _ len rfl rfl rfl rfl (by rw [hz2]; omega) (by unfold maxLen; omega) (Nat.le_refl _) ?_; intro w1 hown hgrow)
  have hb1 : Below w.heap.size w w1 := (Below.refl _ w).grown hgrow (Nat.le_refl _) (fun k h => by cases h)
  rw [madeStrings] at hown
  clear hgrow q hi hz0 hz1 hz2 i0
  have hg : ∃ g, g = w.heap.size := ⟨_, rfl⟩
  obtain ⟨g, hg⟩ := hg
  rw [← hg] at hown hb1 ⊢
  have HG : Hid (g = w.heap.size) := hg
  have HO : Hid (w1.ownsRow g 9 1 (.slice (some ⟨g, 0, none⟩) len len) len (List.replicate len (.string ByteArray.empty)) ∧ Below g w w1) := ⟨hown, hb1⟩
  clear hown hb1 hg
  go_loopw [4] (fun i wr => ∃ k : Nat, k ≤ len ∧ i = .int .i64 k ∧ Hid (∃ xs, wr.ownsRow g 9 1 (.slice (some ⟨g, 0, none⟩) len len) len xs ∧ (∀ j, j < k → xs[j]? = some (.string (ss.getD j ByteArray.empty))) ∧ Below g w wr)) (fun i _ => len - (intOf i).toNat)
  case atStart => exact ⟨0, Nat.zero_le _, rfl, _, HO.out.1, fun j h => by omega, HO.out.2⟩
  case round =>
    obtain ⟨k, hk, rfl, HR⟩ := hrel
    by_cases hlt : k < len
    · obtain ⟨b, off, hx, hc, hsz⟩ := H0.out.2 k hlt
      obtain ⟨xs, hown, hxs, hbel⟩ := HR.out
      obtain rfl : x = ⟨b, off, none⟩ := by simpa using hx
      clear hx HO HR
      have hcr : wr.cell? ⟨b, off + k, none⟩ = some (.string (ss.getD k ByteArray.empty)) := cell_kept (by rw [HG.out] at hbel; exact hbel) hc
      have hlen : xs.length = len := by have := hown.1; omega
      have hcg : wr.cell? ⟨g, k, none⟩ = some xs[k] := by rw [hown.cellAt k (by omega)]; exact List.getElem?_eq_getElem _
      have hfg : wr.frozen? ⟨g, k, none⟩ = false := hown.frozenAt k
      have HS : Hid (((wr.setCell ⟨g, k, none⟩ (.string (ss.getD k ByteArray.empty))).ownsRow g 9 1 (.slice (some ⟨g, 0, none⟩) len len) len (xs.set k (.string (ss.getD k ByteArray.empty)))) ∧ (∀ j, j < k + 1 → (xs.set k (.string (ss.getD k ByteArray.empty)))[j]? = some (.string (ss.getD j ByteArray.empty)))
          ∧ Below g w (wr.setCell ⟨g, k, none⟩ (.string (ss.getD k ByteArray.empty)))) := by
        refine ⟨(hown.stored k _).1, fun j hj => ?_, hbel.setCell (Nat.le_refl _) _⟩
        by_cases e : j = k
        · subst e; simp [hlen, hlt]
        · rw [List.getElem?_set_ne (by omega)]; exact hxs j (by omega)
      clear hown hxs hbel hc
      generalize ss.getD k ByteArray.empty = s at *
      generalize xs[k] = x0 at *
      go_wp2
      go_roundw
      case rel => exact ⟨k + 1, by omega, by go_num, _, HS.out⟩
      case measure => simp [intOf]; omega
    · obtain rfl : k = len := by omega
      go_wp2
      go_ret
      obtain ⟨xs, hown, hxs, hbel⟩ := HR.out
      refine ⟨⟨_, rfl, H0.out.1, fun j hj => ⟨g, 0, rfl, ?_, ?_⟩⟩, by rw [HG.out] at hbel; exact hbel⟩
      · rw [Nat.zero_add, hown.cellAt j (by omega)]; exact hxs j hj
      · obtain ⟨_, _, _, _, h⟩ := H0.out.2 j hj; exact h

theorem clone_any (ao : Option Addr) (len cap : Nat) (ss : List ByteArray) (w : World) (h0 : StrRow w ao len ss) (b0 : len ≤ 65536) :
    Calls Eavg.prog 6 #[.slice ao len cap] w fun e w' => (∃ ao' c', e = .returned (.slice ao' len c') ∧ StrRow w' ao' len ss) ∧ Below w.heap.size w w' := by
  cases ao with
  | some x => exact (clone_some x len cap ss w h0 b0).mono fun e w' ⟨⟨a, h1, h2⟩, h3⟩ => ⟨⟨a, len, h1, h2⟩, h3⟩
  | none =>
    have hl : len = 0 := by
      by_cases h : 0 < len
      · obtain ⟨_, _, e, _⟩ := h0.2 0 h; cases e
      · omega
    subst hl
    have H0 : Hid (StrRow w none 0 ss) := h0
    clear h0
    have q := nil22
    go_enter Eavg.func6, Eavg.ntmps6
    go_wp2
    go_ret
    exact ⟨⟨none, 0, rfl, H0.out⟩, Below.refl _ _⟩
end Go.Proofs.Yoeavw
