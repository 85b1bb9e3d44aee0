/-
  The proof of 'Rows.FnIfChainStringSaid': the walk of FnIfChainString (YoeavwChainWalk), and the row's step (the shells' frame for slices, turned to slices of strings).
-/
import Derived.Test.YoeavwChainWalk
import Derived.OpenShut
import Derived.ShutString
import Derived.ChangeOld
import Derived.SliceStrings
namespace Go.Proofs.Yoeavw.fnIfChainString
open Go.ChangeShapes Go.WideShapes Go.ChangeAt Go.RowKit
open Go.ChangeMaps (open_string shut_string)

theorem own : ownKnob Eavg.prog.godebug = none := by kernel_rfl
theorem laidOut : laidOutB Eavg.prog = true := by kernel_rfl

theorem walk (a0 a1 : Option Addr) (l0 c0 l1 c1 : Nat) (s0 s1 : List ByteArray) (he : Bool) (y : ByteArray) (w : World) (h0 : StrRow w a0 l0 s0) (h1 : StrRow w a1 l1 s1)
    (sy : y.size ≤ maxLen) (b0 : l0 ≤ maxLen) (b1 : l1 ≤ maxLen) :
    Calls Eavg.prog 3 #[.slice a0 l0 c0, .slice a1 l1 c1, .bool he, .string y] w fun e w' => e = .returned (.bool true) ∧ Below w.heap.size w w' := by
  unfold maxLen at sy b0 b1
  by_cases hf : 256 < l0 ∨ 65536 < l1 ∨ 1048576 < y.size
  · exact chain_far a0 a1 l0 c0 l1 c1 s0 s1 he y w h0 h1 sy b0 b1 hf
  · exact chain_near a0 a1 l0 c0 l1 c1 s0 s1 he y w h0 h1 (by omega) (by omega) (by omega)

/-- What an argument of type []string reads as, told as 'StrRow'. -/
theorem row_of {H : Type} {enc : TypeId × Value → H} {W : World} {a : Option Addr} {len cap : Nat} {d : DataW H} {ps : List MemPlace} (h : DataW.Trod enc Eavg.prog W 0 (fun _ => true) true 22 (.slice a len cap) d ps) :
    (∃ ss, StrRow W a len ss) ∧ len ≤ maxLen := by
  obtain ⟨fuel, hf⟩ := h
  rcases open_strings Eavg.underlying22 Eavg.underlying9 (by kernel_rfl) hf with ⟨hcs, _⟩ | ⟨x, l, c, ss, hcs, _, hl, hm, hz, _, hcell, hsz⟩
  · simp [Value.cells] at hcs
    obtain ⟨rfl, rfl, rfl⟩ := hcs
    exact ⟨⟨[], rfl, fun k hk => by omega⟩, by omega⟩
  · simp [Value.cells] at hcs
    obtain ⟨rfl, rfl, rfl⟩ := hcs
    have hz' : ss.length = cap := by simpa using hz
    refine ⟨⟨ss.take len, by simp; omega, fun k hk => ?_⟩, by omega⟩
    obtain ⟨b, off, spot⟩ := x
    have hc := hcell k (by omega)
    have hspot : spot = none := by simpa [Addr.add] using World.cell?_spot (hcell 0 (by omega))
    subst hspot
    rw [Addr.add_lit] at hc
    have e : (ss.take len).getD k ByteArray.empty = ss.getD k ByteArray.empty := by simp [List.getD, List.getElem?_take_of_lt hk]
    have hs : (ss.getD k ByteArray.empty).size ≤ maxLen := by
      have hk' : k < ss.length := by omega
      have e2 : ss.getD k ByteArray.empty = ss[k] := by simp [List.getD, hk']
      rw [e2]; exact hsz _ (List.getElem_mem _)
    rw [e]
    exact ⟨b, off, rfl, hc, by unfold maxLen at hs; exact hs⟩

/-! ### The row's step -/
set_option maxRecDepth 100000 in
theorem lifted (os : Os) (started : os.Started) (H : Type) (enc : TypeId × Value → H) :
    ReturnsInHanded {} Eavg.checked os 3 .any (Rows.fnIfChainStringSpec.pre6 enc Eavg.prog Eavg.f3 Rows.fnIfChainStringRow.domain false) (Rows.fnIfChainStringSpec.post enc Eavg.prog Eavg.f3 false true false false) := by
  refine returnsInHanded_of_change (C := Eavg.checked) own started (by kernel_rfl) Eavg.func3
    (ChangeSpec.witness6 (enc := enc) (C := Eavg.checked) false ⟨#[], #[.slice none 0 0, .slice none 0 0, .bool false, .string ByteArray.empty], []⟩ 8 (by kernel_rfl) (by kernel_rfl) (by kernel_rfl) (by kernel_rfl)) ?_
  intro W base args ds gs before hval0 hW hcnd _
  have hval : ∀ (j : Nat) t v, Eavg.f3.params[j]? = some t → args[j]? = some v → Value.okWide Eavg.prog W .any base t v := hval0
  have hW' := hW
  obtain ⟨p, q, hA0, hV, rfl, hfz, hnd⟩ := hW
  have hA : DataW.TrodAll enc Eavg.prog W 0 (fun _ => true) true Eavg.f3.params.toList args.toList ds p := hA0
  rw [Eavg.params3] at hA hval
  obtain ⟨v0, vs0, d0, ds0, p0, q0, hargs, rfl, rfl, h0, r0⟩ := trodAll_cons hA
  obtain ⟨v1, vs1, d1, ds1, p1, q1, rfl, rfl, rfl, h1, r1⟩ := trodAll_cons r0
  obtain ⟨v2, vs2, d2, ds2, p2, q2, rfl, rfl, rfl, h2, r2⟩ := trodAll_cons r1
  obtain ⟨v3, vs3, d3, ds3, p3, q3, rfl, rfl, rfl, h3, r3⟩ := trodAll_cons r2
  obtain ⟨rfl, rfl, rfl⟩ := trodAll_nil r3
  obtain rfl : args = #[v0, v1, v2, v3] := by cases args; simp_all
  obtain ⟨rfl, rfl⟩ := trodVars_none hV
  obtain ⟨a0, len0, cap0, rfl⟩ := okWide_slice Eavg.underlying22 (hval 0 22 v0 rfl rfl)
  obtain ⟨a1, len1, cap1, rfl⟩ := okWide_slice Eavg.underlying22 (hval 1 22 v1 rfl rfl)
  have lt0 : ∀ x ∈ p0, x.block < W.heap.size := by obtain ⟨m, hm⟩ := h0; exact DataW.trod_lt m _ _ _ hm
  have lt1 : ∀ x ∈ p1, x.block < W.heap.size := by obtain ⟨m, hm⟩ := h1; exact DataW.trod_lt m _ _ _ hm
  obtain ⟨⟨s0, w0⟩, b0⟩ := row_of h0
  obtain ⟨⟨s1, w1⟩, b1⟩ := row_of h1
  obtain ⟨a2, rfl, rfl, rfl⟩ := open_bool Eavg.underlying4 (hval 2 4 v2 rfl rfl) h2
  obtain ⟨a3, rfl, rfl, rfl, w3⟩ := open_string Eavg.underlying9 (hval 3 9 v3 rfl rfl) h3
  clear hA0 hval0
  refine (walk a0 a1 len0 cap0 len1 cap1 s0 s1 a2 a3 W w0 w1 w3 b0 b1).mono fun e W' ⟨he, bel⟩ => ?_
  subst he
  exact ⟨_, rfl, _, _, _, [], _, [], hW', trodAll_mk1 (shut_bool Eavg.underlying4 _), (trodAll_cons_mk (Below.trod laidOut (by kernel_rfl) (of_decide_eq_true (by kernel_rfl)) h0 bel lt0) (trodAll_cons_mk (Below.trod laidOut (by kernel_rfl) (of_decide_eq_true (by kernel_rfl)) h1 bel lt1) (trodAll_cons_mk (shut_bool Eavg.underlying4 _) (trodAll_cons_mk (shut_string Eavg.underlying9 w3) trodAll_mk0)))), rfl, bel.frame _, fun h => by cases h⟩

theorem over : Rows.fnIfChainStringRow.holds Eavg.pinned (OpenSpec.ofChange Rows.fnIfChainStringSpec) :=
  OpenClaim.holds_of_wide 3 Eavg.f3 rfl rfl rfl rfl rfl rfl rfl ⟨rfl, rfl, rfl, rfl, rfl⟩ rfl rfl rfl rfl rfl (by kernel_rfl) Eavg.func3 (by kernel_rfl)
    (of_decide_eq_true (by kernel_rfl)) (by unfold Func.isWrapper; first | (rw [if_pos (by decide +kernel)]; kernel_rfl) | (rw [if_neg (by decide +kernel)]; exact ⟨rfl, rfl⟩))
    (fun os started H enc _ => lifted os started H enc)

/-- THE STATEMENT. -/
theorem proved : Rows.FnIfChainStringSaid :=
  over
#print axioms proved
end Go.Proofs.Yoeavw.fnIfChainString
