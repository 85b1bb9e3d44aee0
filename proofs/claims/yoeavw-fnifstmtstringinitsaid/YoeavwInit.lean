/-
  The proof of 'Rows.FnIfStmtStringInitSaid': the walk of FnIfStmtStringInit out of the contracts of zzMkIf and IfStmt.String, and the row's step (the shell's frame, the world behind the call told by 'Below').
-/
import Derived.Test.YoeavwMk
import Derived.OpenShut
import Derived.ShutString
import Derived.ChangeOld
namespace Go.Proofs.Yoeavw.fnIfStmtStringInit
open Go.ChangeShapes Go.WideShapes Go.ChangeAt Go.RowKit
open Go.ChangeMaps (open_string shut_string)

theorem own : ownKnob Eavg.prog.godebug = none := by kernel_rfl

theorem ret_true {b : Bool} (h : b = true) : Ending.returned (.bool b) = .returned (.bool true) := by rw [h]
theorem beq_of_eq {a b : ByteArray} (h : a = b) : (a.toList == b.toList) = true := by rw [h]; exact beq_self_eq_true _

set_option maxHeartbeats 400000 in
theorem walk_far (a0 : ByteArray) (a1 : ByteArray) (a2 : ByteArray) (a3 : Bool) (a4 : ByteArray) (w : World) (w0 : a0.size ≤ maxLen) (w1 : a1.size ≤ maxLen) (w2 : a2.size ≤ maxLen) (w4 : a4.size ≤ maxLen)
    (hs : 262144 < a0.size ∨ 262144 < a1.size ∨ 262144 < a2.size ∨ 262144 < a4.size) :
    Calls Eavg.prog 4 #[.string a0, .string a1, .string a2, .bool a3, .string a4] w fun e w' => e = .returned (.bool true) ∧ Below w.heap.size w w' := by
  have hB := bytes_init a0 a1 a2 a4 a3 w w0 w1 w2 w4
  have HB : Hid (Calls Eavg.prog 9 #[.string a0, .string a1, .string a2, .bool a3, .string a4] w fun e w' => ∃ r : Bool, e = .returned (.bool r) ∧ w' = w) := hB
  clear hB
  unfold maxLen at w0 w1 w2 w4
  go_enter Eavg.func4, Eavg.ntmps4
  go_wp2_with fail
  refine HB.out.mono ?_
  rintro e w' ⟨r, rfl, rfl⟩
  cases r
  · go_wp2
    go_ret
    exact ⟨rfl, Below.refl _ _⟩
  · go_wp2_with fail
    all_goals go_ret
    all_goals exact ⟨rfl, Below.refl _ _⟩

set_option maxHeartbeats 400000 in
theorem walk_near (a0 : ByteArray) (a1 : ByteArray) (a2 : ByteArray) (a3 : Bool) (a4 : ByteArray) (w : World) (w0 : a0.size ≤ 262144) (w1 : a1.size ≤ 262144) (w2 : a2.size ≤ 262144) (w4 : a4.size ≤ 262144) :
    Calls Eavg.prog 4 #[.string a0, .string a1, .string a2, .bool a3, .string a4] w fun e w' => e = .returned (.bool true) ∧ Below w.heap.size w w' := by
  have hB := bytes_init a0 a1 a2 a4 a3 w (by unfold maxLen; omega) (by unfold maxLen; omega) (by unfold maxLen; omega) (by unfold maxLen; omega)
  have HB : Hid (Calls Eavg.prog 9 #[.string a0, .string a1, .string a2, .bool a3, .string a4] w fun e w' => ∃ r : Bool, e = .returned (.bool r) ∧ w' = w) := hB
  clear hB
  have L1 := ifText_size ⟨#[]⟩ a1 a2 (elseT a3 a4)
  have L2 := elseT_size a3 a4
  have L3 := ifText_head ⟨#[]⟩ a1 a2 (elseT a3 a4)
  have L4 := init_law a0 a1 a2 (elseT a3 a4)
  generalize hA : ifText ⟨#[]⟩ a1 a2 (elseT a3 a4) = A at L1 L3 L4
  generalize hB : ifText (a0 ++ ⟨#[59, 32]⟩) a1 a2 (elseT a3 a4) = B at L4
  have l1 : (3 : Int) ≤ (A.size : Int) := by omega
  have l2 : ¬ 9223372036854775807 < 3 + a0.size + 2 + (A.size - 3) := by
    have e0 : (ByteArray.mk #[]).size = 0 := rfl
    omega
  clear L1 L2
  have HA : Hid (ifText ⟨#[]⟩ a1 a2 (elseT a3 a4) = A) := hA
  have HB' : Hid (ifText (a0 ++ ⟨#[59, 32]⟩) a1 a2 (elseT a3 a4) = B) := hB
  have HL : Hid (B = ⟨#[105, 102, 32]⟩ ++ a0 ++ ⟨#[59, 32]⟩ ++ A.extract 3 A.size) := L4
  clear hA hB L4
  go_enter Eavg.func4, Eavg.ntmps4
  go_wp2_with fail
  refine HB.out.mono ?_
  rintro e w' ⟨r, rfl, rfl⟩
  clear HB
  cases r
  · go_wp2
    go_ret
    exact ⟨rfl, Below.refl _ _⟩
  · go_wp2_with fail
    refine (mkif_f a3 _ a1 a2 a4 _ (by omega)).mono ?_
    rintro e1 u1 ⟨b1, rfl, hI1, hb1⟩
    go_wp2_with fail
    refine (mkif_t a3 a0 a1 a2 a4 _ (by omega) (by omega)).mono ?_
    rintro e2 u2 ⟨b2, rfl, hI2, hb2⟩
    have hI1' := hI1.kept hb2
    go_wp2_with fail
    refine (if_string _ _ _ _ _ _ hI1' (by omega) (by omega)).mono ?_
    rintro e3 u3 ⟨rfl, hb3⟩
    rw [HA.out]
    have hI2' := hI2.kept hb3
    go_wp2_with fail
    refine (if_string _ _ _ _ _ _ hI2' (by omega) (by omega)).mono ?_
    rintro e4 u4 ⟨rfl, hb4⟩
    have hbel := ((hb1.trans (hb2.mono hb1.size)).trans (hb3.mono (Nat.le_trans hb1.size hb2.size))).trans (hb4.mono (Nat.le_trans hb1.size (Nat.le_trans hb2.size hb3.size)))
    clear hI1 hI2 hI1' hI2' hb1 hb2 hb3 hb4
    rw [HB'.out]
    go_wp2_with fail
    go_ret
    exact ⟨ret_true (beq_of_eq HL.out), hbel⟩

theorem walk (a0 : ByteArray) (a1 : ByteArray) (a2 : ByteArray) (a3 : Bool) (a4 : ByteArray) (w0 : a0.size ≤ maxLen) (w1 : a1.size ≤ maxLen) (w2 : a2.size ≤ maxLen) (w4 : a4.size ≤ maxLen) (w : World) :
    Calls Eavg.prog 4 #[.string a0, .string a1, .string a2, .bool a3, .string a4] w fun e w' => e = .returned (.bool true) ∧ Below w.heap.size w w' := by
  by_cases hs : 262144 < a0.size ∨ 262144 < a1.size ∨ 262144 < a2.size ∨ 262144 < a4.size
  · exact walk_far a0 a1 a2 a3 a4 w w0 w1 w2 w4 hs
  · exact walk_near a0 a1 a2 a3 a4 w (by omega) (by omega) (by omega) (by omega)

/-! ### The row's step -/
set_option maxRecDepth 100000 in
theorem lifted (os : Os) (started : os.Started) (H : Type) (enc : TypeId × Value → H) :
    ReturnsInHanded {} Eavg.checked os 4 .any (Rows.fnIfStmtStringInitSpec.pre6 enc Eavg.prog Eavg.f4 Rows.fnIfStmtStringInitRow.domain false) (Rows.fnIfStmtStringInitSpec.post enc Eavg.prog Eavg.f4 false true false false) := by
  refine returnsInHanded_of_change (C := Eavg.checked) own started (by kernel_rfl) Eavg.func4
    (ChangeSpec.witness6 (enc := enc) (C := Eavg.checked) false ⟨#[], #[.string ByteArray.empty, .string ByteArray.empty, .string ByteArray.empty, .bool false, .string ByteArray.empty], []⟩ 8 (by kernel_rfl) (by kernel_rfl) (by kernel_rfl) (by kernel_rfl)) ?_
  intro W base args ds gs before hval0 hW hcnd _
  have hval : ∀ (j : Nat) t v, Eavg.f4.params[j]? = some t → args[j]? = some v → Value.okWide Eavg.prog W .any base t v := hval0
  have hW' := hW
  obtain ⟨p, q, hA0, hV, rfl, hfz, hnd⟩ := hW
  have hA : DataW.TrodAll enc Eavg.prog W 0 (fun _ => true) true Eavg.f4.params.toList args.toList ds p := hA0
  rw [Eavg.params4] at hA hval
  obtain ⟨v0, vs0, d0, ds0, p0, q0, hargs, rfl, rfl, h0, r0⟩ := trodAll_cons hA
  obtain ⟨v1, vs1, d1, ds1, p1, q1, rfl, rfl, rfl, h1, r1⟩ := trodAll_cons r0
  obtain ⟨v2, vs2, d2, ds2, p2, q2, rfl, rfl, rfl, h2, r2⟩ := trodAll_cons r1
  obtain ⟨v3, vs3, d3, ds3, p3, q3, rfl, rfl, rfl, h3, r3⟩ := trodAll_cons r2
  obtain ⟨v4, vs4, d4, ds4, p4, q4, rfl, rfl, rfl, h4, r4⟩ := trodAll_cons r3
  obtain ⟨rfl, rfl, rfl⟩ := trodAll_nil r4
  obtain rfl : args = #[v0, v1, v2, v3, v4] := by cases args; simp_all
  obtain ⟨rfl, rfl⟩ := trodVars_none hV
  obtain ⟨a0, rfl, rfl, rfl, w0⟩ := open_string Eavg.underlying9 (hval 0 9 v0 rfl rfl) h0
  obtain ⟨a1, rfl, rfl, rfl, w1⟩ := open_string Eavg.underlying9 (hval 1 9 v1 rfl rfl) h1
  obtain ⟨a2, rfl, rfl, rfl, w2⟩ := open_string Eavg.underlying9 (hval 2 9 v2 rfl rfl) h2
  obtain ⟨a3, rfl, rfl, rfl⟩ := open_bool Eavg.underlying4 (hval 3 4 v3 rfl rfl) h3
  obtain ⟨a4, rfl, rfl, rfl, w4⟩ := open_string Eavg.underlying9 (hval 4 9 v4 rfl rfl) h4
  clear hA0 hval0
  refine (walk a0 a1 a2 a3 a4 w0 w1 w2 w4 W).mono fun e W' ⟨he, bel⟩ => ?_
  subst he
  exact ⟨_, rfl, _, _, _, [], _, [], hW', trodAll_mk1 (shut_bool Eavg.underlying4 _), (trodAll_cons_mk (shut_string Eavg.underlying9 w0) (trodAll_cons_mk (shut_string Eavg.underlying9 w1) (trodAll_cons_mk (shut_string Eavg.underlying9 w2) (trodAll_cons_mk (shut_bool Eavg.underlying4 _) (trodAll_cons_mk (shut_string Eavg.underlying9 w4) trodAll_mk0))))), rfl, bel.frame _, fun h => by cases h⟩

theorem over : Rows.fnIfStmtStringInitRow.holds Eavg.pinned (OpenSpec.ofChange Rows.fnIfStmtStringInitSpec) :=
  OpenClaim.holds_of_wide 4 Eavg.f4 rfl rfl rfl rfl rfl rfl rfl ⟨rfl, rfl, rfl, rfl, rfl⟩ rfl rfl rfl rfl rfl (by kernel_rfl) Eavg.func4 (by kernel_rfl)
    (of_decide_eq_true (by kernel_rfl)) (by unfold Func.isWrapper; first | (rw [if_pos (by decide +kernel)]; kernel_rfl) | (rw [if_neg (by decide +kernel)]; exact ⟨rfl, rfl⟩))
    (fun os started H enc _ => lifted os started H enc)

/-- THE STATEMENT. -/
theorem proved : Rows.FnIfStmtStringInitSaid :=
  over
#print axioms proved
end Go.Proofs.Yoeavw.fnIfStmtStringInit
