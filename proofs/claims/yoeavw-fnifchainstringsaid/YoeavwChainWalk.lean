/-
  The walk of FnIfChainString: four loops, each cut around; the chain of nodes is carried by the contract of its first node's String().
-/
import Derived.Test.YoeavwClone
import Derived.Test.YoeavwWant
import Derived.Deep.CutBlock
namespace Go.Proofs.Yoeavw
open Go.RowKit

theorem StrRow.kept {w w' : World} {ao : Option Addr} {len : Nat} {ss : List ByteArray} (h : StrRow w ao len ss) (hb : Below w.heap.size w w') : StrRow w' ao len ss :=
  ⟨h.1, fun k hk => by obtain ⟨b, off, e, hc, hz⟩ := h.2 k hk; exact ⟨b, off, e, cell_kept hb hc, hz⟩⟩

set_option maxRecDepth 100000 in
set_option maxHeartbeats 1000000 in
theorem chain_near (a0 a1 : Option Addr) (l0 c0 l1 c1 : Nat) (s0 s1 : List ByteArray) (he : Bool) (y : ByteArray) (w : World) (h0 : StrRow w a0 l0 s0) (h1 : StrRow w a1 l1 s1)
    (sy : y.size ≤ 1048576) (b0 : l0 ≤ 256) (b1 : l1 ≤ 65536) :
    Calls Eavg.prog 3 #[.slice a0 l0 c0, .slice a1 l1 c1, .bool he, .string y] w fun e w' => e = .returned (.bool true) ∧ Below w.heap.size w w' := by
  have H0 : Hid (StrRow w a0 l0 s0) := h0
  have H1 : Hid (StrRow w a1 l1 s1) := h1
  clear h0 h1
  go_enter Eavg.func3, Eavg.ntmps3
  go_wp2_with fail
  refine (bytes_chain a0 a1 l0 c0 l1 c1 s0 s1 he y w H0.out H1.out (by omega) (by omega) (by omega)).mono ?_
  rintro e w' ⟨⟨r, rfl⟩, hw⟩
  subst hw
  cases r
  · go_wp2
    go_ret
    exact ⟨rfl, Below.refl _ _⟩
  go_upto_block 0 with fail
  go_cut [9] from 10 to 62 (fun t wc => w' = wc ∧ ∃ n : Int, t = .int .i64 n ∧ 0 ≤ n ∧ n ≤ 1048576 ∧ Small s0 l0)
  case first =>
    go_wp2
    go_loop [9, 10] (fun t i => ∃ (k : Nat) (n : Int), k ≤ l0 ∧ i = .int .i64 k ∧ t = .int .i64 n ∧ 0 ≤ n ∧ n ≤ 1048576 ∧ Small s0 k) (fun _ i => l0 - (intOf i).toNat)
    case atStart => exact ⟨0, _, Nat.zero_le _, rfl, rfl, by omega, by omega, Small.zero _⟩
    case round =>
      obtain ⟨k, n, hk, rfl, rfl, n0, n1, HZ⟩ := hrel
      by_cases hlt : k < l0
      · obtain ⟨b, off, rfl, hc, hsz⟩ := H0.out.2 k hlt
        generalize hs : s0.getD k ByteArray.empty = s at hc hsz
        have HE : Hid (s0.getD k ByteArray.empty = s) := hs
        clear hs H0 H1
        go_wp2
        · go_ret; exact ⟨rfl, Below.refl _ _⟩
        · go_ret; exact ⟨rfl, Below.refl _ _⟩
        go_round
        case rel => exact ⟨k + 1, _, by omega, by go_num, rfl, by omega, by omega, HZ.grow HE (by omega)⟩
        case measure => simp [intOf]; omega
      · obtain rfl : k = l0 := by omega
        go_wp2
        go_meet
        exact ⟨rfl, n, rfl, n0, n1, HZ⟩
  case rest =>
    obtain ⟨rfl, n, rfl, n0, n1, HZ0⟩ := hcut
    go_upto_block 2 with fail
    go_cut [9] from 10 to 95 (fun t wc => w' = wc ∧ ∃ n : Int, t = .int .i64 n ∧ 0 ≤ n ∧ n ≤ 1048576 ∧ Small s1 l1)
    case first =>
      go_wp2
      go_loop [9, 11] (fun t i => ∃ (k : Nat) (n : Int), k ≤ l1 ∧ i = .int .i64 k ∧ t = .int .i64 n ∧ 0 ≤ n ∧ n ≤ 1048576 ∧ Small s1 k) (fun _ i => l1 - (intOf i).toNat)
      case atStart => exact ⟨0, _, Nat.zero_le _, rfl, rfl, by omega, by omega, Small.zero _⟩
      case round =>
        obtain ⟨k, n, hk, rfl, rfl, n0, n1, HZ⟩ := hrel
        by_cases hlt : k < l1
        · obtain ⟨b, off, rfl, hc, hsz⟩ := H1.out.2 k hlt
          generalize hs : s1.getD k ByteArray.empty = s at hc hsz
          have HE : Hid (s1.getD k ByteArray.empty = s) := hs
          clear hs H0 H1
          go_wp2
          · go_ret; exact ⟨rfl, Below.refl _ _⟩
          · go_ret; exact ⟨rfl, Below.refl _ _⟩
          go_round
          case rel => exact ⟨k + 1, _, by omega, by go_num, rfl, by omega, by omega, HZ.grow HE (by omega)⟩
          case measure => simp [intOf]; omega
        · obtain rfl : k = l1 := by omega
          go_wp2
          go_meet
          exact ⟨rfl, n, rfl, n0, n1, HZ⟩
    case rest =>
      clear n0 n1
      obtain ⟨rfl, n, rfl, n0, n1, HZ1⟩ := hcut
      by_cases hk0 : l0 = 0
      · have hk1 : ((l0 : Int) == 0) = true := by simp [hk0]
        go_wp2
        go_ret; exact ⟨rfl, Below.refl _ _⟩
      have hk1 : ((l0 : Int) == 0) = false := by simp [hk0]
      go_wp2_with fail
      refine (clone_any a0 l0 c0 s0 _ H0.out (by omega)).mono ?_
      rintro e1 w1 ⟨⟨a0', c0', rfl, hr0⟩, hb1⟩
      have H0' : Hid (StrRow w1 a0' l0 s0) := hr0
      have H1' : Hid (StrRow w1 a1 l1 s1) := StrRow.kept H1.out hb1
      clear hr0 H0 H1
      go_wp2_with fail
      refine (clone_any a1 l1 c1 s1 _ H1'.out (by omega)).mono ?_
      rintro e2 w2 ⟨⟨a1', c1', rfl, hr1⟩, hb2⟩
      have H0 : Hid (StrRow w2 a0' l0 s0) := StrRow.kept H0'.out hb2
      have H1 : Hid (StrRow w2 a1' l1 s1) := hr1
      have hbel : Below w'.heap.size w' w2 := hb1.trans (hb2.mono hb1.size)
      clear hr1 H0' H1' hb1 hb2
      go_upto_block 4 with fail
      go_cut [13] from 14 to 141 (fun nx wc => Hid (NextAt wc nx (elseT he y) (pairs s0 s1 0) ∧ Below w2.heap.size w2 wc))
      case first =>
        go_wp2
        go_loopg [13, 14] l0 (fun k nx i wr => k ≤ l0 ∧ i = .int .i64 ((k : Int) - 1) ∧ Hid (NextAt wr nx (elseT he y) (pairs s0 s1 k) ∧ Below w2.heap.size w2 wr))
        case atStart => exact ⟨Nat.le_refl _, rfl, by have e := H0.out.1; subst e; rw [pairs_end]; rfl, Below.refl _ _⟩
        case round =>
          obtain ⟨hk, rfl, HR⟩ := hrel
          cases gk with
          | zero =>
            go_wp2
            go_meet
            exact HR
          | succ j =>
            have hj : j < l0 := by omega
            have HC : Hid (∃ (b off : Nat), a0' = some ⟨b, off, none⟩ ∧ wr.cell? ⟨b, off + j, none⟩ = some (.string (s0.getD j ByteArray.empty))) := by
              obtain ⟨b, off, e, h1, _⟩ := H0.out.2 j hj
              exact ⟨b, off, e, cell_kept HR.out.2 h1⟩
            have HB : Hid (StrRow wr a1' l1 s1) := StrRow.kept H1.out HR.out.2
            have e1 : (((j + 1 : Nat) : Int) - 1) = (j : Int) := by omega
            rw [e1]
            clear e1
            have hlen : s1.length = l1 := H1.out.1
            have HL : Hid (s1.length = l1) := hlen
            clear hlen
            obtain ⟨B, hB⟩ : ∃ B, B = s1.getD j ByteArray.empty := ⟨_, rfl⟩
            have HBB : Hid (B = s1.getD j ByteArray.empty) := hB
            clear hB
            go_upto_if 103 with fail
            go_cut [15] from 96 to 133 (fun b wx => wr = wx ∧ b = .string B)
            case first =>
              by_cases hjl : j < l1
              · obtain ⟨b, off, rfl, hc, hsz⟩ := HB.out.2 j hjl
                rw [← HBB.out] at hc
                clear HB HC HR H0 H1
                go_wp2
                go_meet
                exact ⟨rfl, rfl⟩
              · have e : Hid (B = ⟨#[]⟩) := by
                  have e1 := HBB.out
                  simp [List.getD, List.getElem?_eq_none (show s1.length ≤ j by rw [HL.out]; omega)] at e1
                  exact e1
                go_wp2
                go_meet
                exact ⟨rfl, by rw [e.out]⟩
            case rest =>
              obtain ⟨rfl, rfl⟩ := hcut
              obtain ⟨C, hC⟩ : ∃ C, C = s0.getD j ByteArray.empty := ⟨_, rfl⟩
              rw [← hC] at HC
              have HCC : Hid (C = s0.getD j ByteArray.empty) := hC
              clear hC
              go_upto_region 34 with fail
              go_cut [16] from 96 to 133 (fun s wx => Hid (∃ g : Nat, s = .pointer (some ⟨g, 0, none⟩) ∧ RawIf wx g C B ∧ Below wr.heap.size wr wx ∧ wr.heap.size ≤ g))
              case first =>
                obtain ⟨b, off, rfl, hc⟩ := HC.out
                have i0 : (0 : Int) ≤ (j : Int) := by omega
                have i1 : (j : Int) < (l0 : Int) := by omega
                clear HB HC HR H0 H1
                go_region_held3 (fun v => v.cell? ⟨b, off + j, none⟩ = some (.string C))
                  (first | go_keep | exact cell_kept hbel2 (by assumption))
                  (first | (go_at_call 7; refine (zzblock _ _).mono ?_; rintro e3 w3 ⟨rfl, hblk, hbel2, hsz2⟩))
                · go_wp2_with fail
                  go_meet
                  exact raw_a hblk hbel2 hsz2
                · go_wp2_with fail
                  go_meet
                  exact raw_b hblk hbel2 hsz2
              case rest =>
                obtain ⟨g, rfl, hraw, hbw, hgw⟩ := hcut.out
                obtain ⟨hce, hfe⟩ := hraw.cell
                have sC : C.size ≤ 1048576 := by rw [HCC.out]; exact HZ0 j hj
                have sB : B.size ≤ 1048576 := by rw [HBB.out]; exact getD_size (by rw [HL.out]; exact HZ1) j
                have HP : Hid (pairs s0 s1 j = (C, B) :: pairs s0 s1 (j + 1)) := by
                  rw [HCC.out, HBB.out]
                  exact pairs_step s0 s1 j (by rw [H0.out.1]; exact hj)
                have HN := HR.out.1
                have HW := HR.out.2
                clear hcut HC HB HR
                generalize hq : pairs s0 s1 (j + 1) = r at HN HP
                have HQ : Hid (pairs s0 s1 (j + 1) = r) := hq
                clear hq
                cases r with
                | nil =>
                  have HN' : u13 = .pointer none := HN
                  subst HN'
                  cases he with
                  | false =>
                    have HF := node_last hraw hbw sC sB
                    clear HN
                    go_wp2
                    go_roundg j
                    case measure => omega
                    case rel => exact ⟨by omega, rfl, by rw [HP.out]; exact HF.1, HW.trans (HF.2.mono HW.size)⟩
                  | true =>
                    clear HN
                    go_wp2_with fail
                    refine (zzblock _ _).mono ?_
                    rintro e5 w5 ⟨rfl, hbk, hb5, hs5⟩
                    have hce5 := cell_kept hb5 hce
                    have hfe5 : w5.frozen? ⟨g, 4, none⟩ = false := (hb5.frozen (World.block_lt_of_cell? wc _ hce)).trans hfe
                    have HF := node_else hraw hbw hgw hb5 hbk sC sB sy
                    clear hce hfe hb5 hs5 hbk hraw hbw
                    go_wp2
                    go_roundg j
                    case measure => omega
                    case rel => exact ⟨by omega, rfl, by rw [HP.out]; exact HF.1, HW.trans (HF.2.mono HW.size)⟩
                | cons p r =>
                  obtain ⟨c', b'⟩ := p
                  have HN0 := HN
                  obtain ⟨gn, hgn, _⟩ := HN
                  subst hgn
                  have HF := node_next hraw hbw hgw HN0 (chain_size (by rw [H0.out.1]; exact HZ0) (by rw [HL.out]; exact HZ1) (by rw [H0.out.1]; exact b0) _ (by have := elseT_size he y; omega) HQ.out) sC sB
                  clear HN0 hraw hbw
                  go_wp2
                  go_roundg j
                  case measure => omega
                  case rel => exact ⟨by omega, rfl, by rw [HP.out]; exact HF.1, HW.trans (HF.2.mono HW.size)⟩
      case rest =>
        have hp0 : 0 < s0.length := by rw [H0.out.1]; omega
        have hN := hcut.out.1
        have hb3 := hcut.out.2
        rw [pairs_step s0 s1 0 hp0] at hN
        obtain ⟨g, hg, hcall⟩ := hN
        subst hg
        have H0c : Hid (StrRow wc a0' l0 s0) := StrRow.kept H0.out hb3
        have H1c : Hid (StrRow wc a1' l1 s1) := StrRow.kept H1.out hb3
        have HCALL := hcall wc (Below.refl _ _)
        have HG := want_end s0 s1 (elseT he y) hp0
        have HGS := chain_size (by rw [H0.out.1]; exact HZ0) (by rw [H1.out.1]; exact HZ1) (by rw [H0.out.1]; exact b0) (elseT he y) (by have := elseT_size he y; omega) (pairs_step s0 s1 0 hp0)
        generalize ifText ⟨#[]⟩ (s0.getD 0 ByteArray.empty) (s1.getD 0 ByteArray.empty) (tailText (elseT he y) (pairs s0 s1 (0 + 1))) = G at HCALL HG HGS
        rw [H0.out.1] at HG
        have HGG : Hid (wantTo s0 s1 l0 ++ elseT he y = G) := HG
        have hbel3 := hbel.trans (hb3.mono hbel.size)
        clear hcut hcall HG hbel hb3 H0 H1
        go_wp2_with fail
        refine HCALL.mono ?_
        rintro e4 w4 ⟨rfl, hb4⟩
        have H0 : Hid (StrRow w4 a0' l0 s0) := StrRow.kept H0c.out hb4
        have H1 : Hid (StrRow w4 a1' l1 s1) := StrRow.kept H1c.out hb4
        have hbel4 := hbel3.trans (hb4.mono hbel3.size)
        clear HCALL H0c H1c hbel3 hb4
        obtain ⟨i0, hi, hz0, hz1, hz2⟩ := info_parts Eavg.info5
        go_upto_block 6 with (at_make; refine wpList_make_own _ rfl _ _ 39 rfl w4.heap.size 5 i0 (.int .u8 0) 1 Eavg.underlying39 hi hz0 hz1 _ _ _ (n + 32 * l0 + 16).toNat rfl rfl (by omega) (by rw [hz2]; omega) (by unfold maxLen; omega) (Nat.le_refl _) ?_; intro w5 hown hgrow)
        have hW : Hid (Want w4 w5 (.slice (some ⟨w4.heap.size, 0, none⟩) 0 (n + 32 * l0 + 16).toNat) ⟨#[]⟩) := ⟨hown, (Below.refl _ w4).grown hgrow (Nat.le_refl _) (fun k h => by cases h)⟩
        clear hown hgrow hi hz0 hz1 hz2 i0
        go_cut [18] from 19 to 173 (fun v wc => Hid (Want w4 wc v (wantTo s0 s1 l0)))
        case first =>
          go_wp2
          go_loopg [18, 19] l0 (fun m v i wr => ∃ k : Nat, k + m = l0 ∧ i = .int .i64 k ∧ Hid (Want w4 wr v (wantTo s0 s1 k)))
          case atStart => exact ⟨0, by omega, rfl, hW⟩
          case round =>
            obtain ⟨k, hk, rfl, HR⟩ := hrel
            cases gk with
            | zero =>
              obtain rfl : k = l0 := by omega
              go_wp2
              go_meet
              exact HR
            | succ m =>
              have hkl : k < l0 := by omega
              have sC := getD_size (ss := s0) (by rw [H0.out.1]; exact HZ0) k
              have sB := getD_size (ss := s1) (by rw [H1.out.1]; exact HZ1) k
              have sT := wantTo_size (s0 := s0) (s1 := s1) (by rw [H0.out.1]; exact HZ0) (by rw [H1.out.1]; exact HZ1) k
              have sH := headText_size k
              have HT : Hid (wantTo s0 s1 (k + 1) = wantTo s0 s1 k ++ headText k ++ s0.getD k ByteArray.empty ++ ⟨#[32, 123]⟩ ++ s1.getD k ByteArray.empty ++ ⟨#[125]⟩) := rfl
              have HC : Hid (∃ (b off : Nat), a0' = some ⟨b, off, none⟩ ∧ w4.cell? ⟨b, off + k, none⟩ = some (.string (s0.getD k ByteArray.empty))) := by
                obtain ⟨b, off, e, h1, _⟩ := H0.out.2 k hkl
                exact ⟨b, off, e, h1⟩
              generalize hTk : wantTo s0 s1 k = T at HR sT HT
              have sT2 : T.size ≤ 1073741824 := by
                have : k * 2097200 ≤ 256 * 2097200 := Nat.mul_le_mul_right _ (by omega)
                omega
              clear hTk sT
              obtain ⟨C, hC⟩ : ∃ C, C = s0.getD k ByteArray.empty := ⟨_, rfl⟩
              obtain ⟨B, hB⟩ : ∃ B, B = s1.getD k ByteArray.empty := ⟨_, rfl⟩
              rw [← hC] at HC HT sC
              rw [← hB] at HT sB
              have HBB : Hid (B = s1.getD k ByteArray.empty) := hB
              clear hC hB
              go_upto_if 148 with fail
              go_cut [18] from 142 to 173 (fun v wx => Hid (Want w4 wx v (T ++ headText k)))
              case first =>
                by_cases hk0 : k = 0
                · have hk1 : ((k : Int) == 0) = true := by simp [hk0]
                  have eH : Hid (headText k = ⟨#[105, 102, 32]⟩) := by subst hk0; rfl
                  clear hk0
                  go_wp2_with (at_builtin; refine want_str rfl _ _ rfl HR.out rfl ⟨#[105, 102, 32]⟩ rfl (by rw [← eH.out]; omega) ?_; intro v6 w6 h6)
                  go_meet
                  rw [eH.out]
                  exact h6
                · have hk1 : ((k : Int) == 0) = false := by simp [hk0]
                  have eH : Hid (headText k = ⟨#[32, 101, 108, 115, 101, 32, 105, 102, 32]⟩) := by show headText k = _; simp [headText, hk0]
                  clear hk0
                  go_wp2_with (at_builtin; refine want_str rfl _ _ rfl HR.out rfl ⟨#[32, 101, 108, 115, 101, 32, 105, 102, 32]⟩ rfl (by rw [← eH.out]; omega) ?_; intro v6 w6 h6)
                  go_meet
                  rw [eH.out]
                  exact h6
              case rest =>
                have h6 := hcut.out
                obtain ⟨b, off, rfl, hc4⟩ := HC.out
                have hc := cell_kept h6.bel hc4
                have z1 : (T ++ headText k).size ≤ 1073741833 := by rw [ByteArray.size_append]; omega
                have HK : Hid (Want w4 wc u18 (T ++ headText k)) := h6
                generalize T ++ headText k = T1 at HK HT z1
                clear hcut HR HC hc4 h6
                have z2 : (T1 ++ C).size ≤ 1074790409 := by rw [ByteArray.size_append]; omega
                have z3 : (T1 ++ C ++ ⟨#[32, 123]⟩).size ≤ 1074790411 := by
                  have e2 : (ByteArray.mk #[32, 123]).size = 2 := rfl
                  rw [ByteArray.size_append, e2]; omega
                have z4 : (T1 ++ C ++ ⟨#[32, 123]⟩ ++ B).size ≤ 1075838987 := by rw [ByteArray.size_append]; omega
                go_upto_if 164 with (first
                  | (at_builtin; refine want_str rfl (.tmp 153) (.tmp 157) rfl HK.out rfl C rfl (by omega) ?_; intro v7 w7 h7)
                  | (at_builtin; refine want_str rfl (.tmp 159) _ rfl h7 rfl ⟨#[32, 123]⟩ rfl (by have e2 : (ByteArray.mk #[32, 123]).size = 2 := rfl; omega) ?_; intro v8 w8 h8))
                clear h7 hc
                generalize T1 ++ C ++ ⟨#[32, 123]⟩ = T3 at h8 HT z3 z4
                go_cut [18] from 142 to 173 (fun v wx => Hid (Want w4 wx v (T3 ++ B)))
                case first =>
                  by_cases hjl : k < l1
                  · obtain ⟨b', off', rfl, hcb, _⟩ := H1.out.2 k hjl
                    rw [← HBB.out] at hcb
                    have hcc := cell_kept h8.bel hcb
                    clear hcb H1
                    go_wp2_with (at_builtin; refine want_str rfl _ _ rfl h8 rfl B rfl (by omega) ?_; intro v9 w9 h9)
                    go_meet
                    exact h9
                  · have e : Hid (T3 ++ B = T3) := by
                      have e1 := HBB.out
                      simp [List.getD, List.getElem?_eq_none (show s1.length ≤ k by rw [H1.out.1]; omega)] at e1
                      show T3 ++ B = T3
                      rw [e1]; exact ba_ext (by simp)
                    go_wp2
                    go_meet
                    rw [e.out]
                    exact h8
                case rest =>
                  have h9 : Hid (Want w4 wc u18 (T3 ++ B)) := hcut
                  generalize T3 ++ B = T4 at h9 HT z4
                  clear hcut h8 HK
                  go_wp2_with (at_builtin; refine want_byte rfl _ _ rfl h9.out rfl 125 125 (by decide) rfl (by omega) ?_; intro v10 w10 h10)
                  go_roundg m
                  case measure => omega
                  case rel => exact ⟨k + 1, by omega, by go_num, by rw [HT.out]; exact h10⟩
        case rest =>
          have sT := wantTo_size (s0 := s0) (s1 := s1) (by rw [H0.out.1]; exact HZ0) (by rw [H1.out.1]; exact HZ1) l0
          have pT := wantTo_pos s0 s1 (k := l0) (by omega)
          have h6 := hcut.out
          generalize wantTo s0 s1 l0 = T at h6 sT pT HGG
          have sT2 : T.size ≤ 1073741824 := by
            have : l0 * 2097200 ≤ 256 * 2097200 := Nat.mul_le_mul_right _ b0
            omega
          clear hcut hW sT H0 H1 HZ0 HZ1 hp0
          cases he with
          | false =>
            have hconv := want_string h6 pT
            have hE : Hid (G = T) := by
              have := HGG.out
              rw [← want_noelse] at this
              exact this.symm
            go_wp2
            go_ret
            exact ⟨ret_true (beq_of_eq hE.out), hbel4.trans (h6.bel.mono hbel4.size)⟩
          | true =>
            have hE : Hid (G = T ++ ⟨#[32, 101, 108, 115, 101, 32, 123]⟩ ++ y ++ ⟨#[125]⟩) := by
              have := HGG.out
              rw [← want_else] at this
              exact this.symm
            have z1 : (T ++ ⟨#[32, 101, 108, 115, 101, 32, 123]⟩).size ≤ 1073741831 := by
              have e2 : (ByteArray.mk #[32, 101, 108, 115, 101, 32, 123]).size = 7 := rfl
              rw [ByteArray.size_append, e2]; omega
            have z2 : (T ++ ⟨#[32, 101, 108, 115, 101, 32, 123]⟩ ++ y).size ≤ 1074790407 := by rw [ByteArray.size_append]; omega
            have z3 : 0 < (T ++ ⟨#[32, 101, 108, 115, 101, 32, 123]⟩ ++ y ++ ⟨#[125]⟩).size := by
              have e2 : (ByteArray.mk #[125]).size = 1 := rfl
              rw [ByteArray.size_append, e2]; omega
            go_wp2_with (first
              | (at_builtin; refine want_str rfl (.tmp 175) _ rfl h6 rfl ⟨#[32, 101, 108, 115, 101, 32, 123]⟩ rfl (by have e2 : (ByteArray.mk #[32, 101, 108, 115, 101, 32, 123]).size = 7 := rfl; omega) ?_; intro v7 w7 h7)
              | (at_builtin; refine want_str rfl (.tmp 177) (.tmp 178) rfl h7 rfl y rfl (by omega) ?_; intro v8 w8 h8)
              | (at_builtin; refine want_byte rfl (.tmp 180) _ rfl h8 rfl 125 125 (by decide) rfl (by omega) ?_; intro v9 w9 h9; have hconv := want_string h9 z3))
            go_ret
            exact ⟨ret_true (beq_of_eq hE.out), hbel4.trans (h9.bel.mono hbel4.size)⟩

set_option maxRecDepth 100000 in
set_option maxHeartbeats 1000000 in
theorem chain_far (a0 a1 : Option Addr) (l0 c0 l1 c1 : Nat) (s0 s1 : List ByteArray) (he : Bool) (y : ByteArray) (w : World) (h0 : StrRow w a0 l0 s0) (h1 : StrRow w a1 l1 s1)
    (sy : y.size ≤ 9223372036854775807) (b0 : l0 ≤ 9223372036854775807) (b1 : l1 ≤ 9223372036854775807) (hf : 256 < l0 ∨ 65536 < l1 ∨ 1048576 < y.size) :
    Calls Eavg.prog 3 #[.slice a0 l0 c0, .slice a1 l1 c1, .bool he, .string y] w fun e w' => e = .returned (.bool true) ∧ Below w.heap.size w w' := by
  have H0 : Hid (StrRow w a0 l0 s0) := h0
  have H1 : Hid (StrRow w a1 l1 s1) := h1
  clear h0 h1
  go_enter Eavg.func3, Eavg.ntmps3
  go_wp2_with fail
  refine (bytes_chain a0 a1 l0 c0 l1 c1 s0 s1 he y w H0.out H1.out (by omega) (by omega) (by omega)).mono ?_
  rintro e w' ⟨⟨r, rfl⟩, hw⟩
  subst hw
  cases r
  · go_wp2
    go_ret
    exact ⟨rfl, Below.refl _ _⟩
  · go_wp2_with fail
    all_goals go_ret
    all_goals exact ⟨rfl, Below.refl _ _⟩
end Go.Proofs.Yoeavw
