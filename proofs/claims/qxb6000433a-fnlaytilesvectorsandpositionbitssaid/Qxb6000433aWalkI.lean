import Derived.Test.Qxb6000433aRounds
import Derived.StillTailTactics
import Derived.Laws.ResultCell
namespace Go.Proofs.Qxb6000433a
open Go.RowKit
open Plain (Inv Whole)

set_option maxRecDepth 100000 in
set_option maxHeartbeats 3200000 in
theorem build_any (go l : Nat) (ad : Option Addr) (cp : Nat) (kz az bz : Nat → Int) (w : World) (hO : OpsAt w go l kz az bz) (had : 0 < l → ad = some ⟨go, 0, none⟩) (hl : l ≤ 4096) :
    Calls Try.prog 12 #[.slice ad l cp, .bool false] w fun e w' => Tree9 w e w' := by
  have HO := Kept.mk hO
  have HD := Kept.mk had
  have HFr := Kept.mk (fresh w)
  obtain ⟨i21, hi21, hz21, hs21, hb21⟩ := info_parts Try.info21
  have HI21 := Kept.mk (And.intro hi21 (And.intro hz21 (And.intro hs21 hb21)))
  clear hi21 hz21 hs21 hb21
  clear hO had
  go_enter Try.func12, Try.ntmps12
  go_wp2
  unfold nil9 at HFr
  generalize ((w.alloc (.cells #[.slice none 0 0, .slice none 0 0, .slice none 0 0, .slice none 0 0, .slice none 0 0, .slice none 0 0, .slice none 0 0, .slice none 0 0, .slice none 0 0] 28)).alloc (.cells #[.slice none 0 0, .slice none 0 0, .slice none 0 0, .slice none 0 0, .slice none 0 0, .slice none 0 0, .slice none 0 0, .slice none 0 0, .slice none 0 0] 28)) = W at HFr ⊢
  go_loopg [7, 8, 9] l (fun g' s7 s8 s9 wr => ∃ (i n pos : Nat) (F : Nat → Nat → Int) (V : Nat → Value) (stk : List Nat) (sv : Value), i ≤ l ∧ g' = l - i ∧ sv = s7 ∧ s8 = .int .i32 (pos : Int) ∧ s9 = .int .i64 (i : Int) ∧ n ≤ i ∧ stk.length ≤ i ∧ pos ≤ 8 * i ∧ Round W wr (w.heap.size + 2) (w.heap.size + 1) n F V stk sv)
  case atStart => exact ⟨0, 0, 0, _, _, [], _, Nat.zero_le _, rfl, rfl, rfl, rfl, Nat.le_refl _, Nat.le_refl _, Nat.le_refl _, HFr.out.start⟩
  case round =>
    obtain ⟨i, n, pos, F, V, stk, sv, hi, rfl, rfl, rfl, rfl, hni, hsi, hpi, hR⟩ := hrel
    by_cases hil : i < l
    · obtain rfl := HD.out (by omega)
      have hO := HO.out.later (hR.below HFr.out)
      obtain ⟨ck, hk0, hk1⟩ := hO.ck i hil
      obtain ⟨ca, ha0, ha1⟩ := hO.ca i hil
      obtain ⟨cb, hb0, hb1⟩ := hO.cb i hil
      have HR := Kept.mk hR
      clear hO hR
      go_upto_region 10 with fail
      have hq0 : 0 ≤ kz i % 5 ∧ kz i % 5 < 5 := by omega
      have ha2 : 0 ≤ az i % 4294967296 ∧ az i % 4294967296 < 4294967296 := by omega
      generalize kz i % 5 = q at hq0 ⊢
      generalize az i % 4294967296 = a at ha2 ⊢
      obtain ⟨a0, a1⟩ := ha2
      clear ck ca cb ha0 ha1 hk0 hk1
      rcases (show q = 0 ∨ q = 1 ∨ q = 2 ∨ q = 3 ∨ q = 4 by omega) with rfl | rfl | rfl | rfl | rfl
      · go_upto_region 13 with fail
        have hcn : 1 ≤ 1 + a % 8 ∧ 1 + a % 8 ≤ 8 := by omega
        generalize 1 + a % 8 = cnt at hcn ⊢
        obtain ⟨c, rfl⟩ : ∃ c : Nat, cnt = (c : Int) := ⟨cnt.toNat, by omega⟩
        obtain ⟨n1, n2⟩ := hcn
        have hof : 0 ≤ bz i % 4294967296 % (c : Int) ∧ bz i % 4294967296 % (c : Int) < (c : Int) := ⟨Int.emod_nonneg _ (by omega), Int.emod_lt_of_pos _ (by omega)⟩
        have hof0 := hof.1
        have hof1 : bz i % 4294967296 % (c : Int) ≤ 7 := by omega
        go_upto_region 14 with fail
        clear hof0 hof1
        generalize bz i % 4294967296 % (c : Int) = off at hof ⊢
        obtain ⟨o0, o1⟩ := hof
        go_wp2_with fail
        refine (add_any (w.heap.size + 2) (w.heap.size + 1) n F V wr HR.out.tree HR.out.side.le (by omega) 0 0 (pos : Int) ((pos : Int) + (c : Int)) ((pos : Int) + off) 0 0).mono ?_
        rintro e W1 ⟨rfl, V1, hT1, hG1⟩
        have HB1 := Kept.mk (Nat.le_trans HR.out.side.le hG1.size)
        have HS1 := Kept.mk (HR.out.side.grew hG1 hT1).row
        have HTG := Kept.mk (And.intro hT1 hG1)
        clear hT1 hG1
        go_wp2_with (at_builtin; refine wpList_append_lies _ rfl (.tmp 58) (.tmp 67) 26 rfl (w.heap.size + 2) 21 i21 (.int .i32 0) 1 4 Try.underlying26 HI21.out.1 HI21.out.2.1 HI21.out.2.2.1 HI21.out.2.2.2 rfl (by decide) _ stk.length _ rfl (HS1.out.alloc _) ⟨W1.heap.size, 0, none⟩ 1 1 [.int .i32 (n : Int)] rfl rfl (cell_one_new _ _ _) (ints_oneCell .i32 [(n : Int)]) (by decide) (by unfold maxLen; omega) (by omega) (by have := HB1.out; simp; omega) _ rfl ?_; intro g cap w2 hown hgrow hat hlt)
        have HN := Kept.mk (HR.out.leaf HTG.out.1 HTG.out.2 (fun K hK => inv_leaf hK 0 0 (pos : Int) ((pos : Int) + (c : Int)) ((pos : Int) + off) 0 0 (by omega) (fun _ => by omega)) hown hgrow hat)
        clear hown hgrow hat hlt HTG HS1 HB1
        go_roundg (l - (i + 1))
        case measure => omega
        case rel => exact ⟨i + 1, n + 1, pos + c, _, V1, stk ++ [n], _, by omega, rfl, rfl, by go_num, by go_num, by omega, by simp; omega, by omega, HN.out⟩
      · have hx : True := trivial
        go_wp2_with fail
        refine (add_any (w.heap.size + 2) (w.heap.size + 1) n F V wr HR.out.tree HR.out.side.le (by omega) 1 1 0 0 0 0 0).mono ?_
        rintro e W1 ⟨rfl, V1, hT1, hG1⟩
        have HB1 := Kept.mk (Nat.le_trans HR.out.side.le hG1.size)
        have HS1 := Kept.mk (HR.out.side.grew hG1 hT1).row
        have HTG := Kept.mk (And.intro hT1 hG1)
        clear hT1 hG1
        go_wp2_with (at_builtin; refine wpList_append_lies _ rfl (.tmp 74) (.tmp 76) 26 rfl (w.heap.size + 2) 21 i21 (.int .i32 0) 1 4 Try.underlying26 HI21.out.1 HI21.out.2.1 HI21.out.2.2.1 HI21.out.2.2.2 rfl (by decide) _ stk.length _ rfl (HS1.out.alloc _) ⟨W1.heap.size, 0, none⟩ 1 1 [.int .i32 (n : Int)] rfl rfl (cell_one_new _ _ _) (ints_oneCell .i32 [(n : Int)]) (by decide) (by unfold maxLen; omega) (by omega) (by have := HB1.out; simp; omega) _ rfl ?_; intro g cap w2 hown hgrow hat hlt)
        have HN := Kept.mk (HR.out.leaf HTG.out.1 HTG.out.2 (fun K hK => inv_leaf hK 1 1 0 0 0 0 0 (by omega) (fun h => by omega)) hown hgrow hat)
        clear hown hgrow hat hlt HTG HS1 HB1
        go_roundg (l - (i + 1))
        case measure => omega
        case rel => exact ⟨i + 1, n + 1, pos, _, V1, stk ++ [n], _, by omega, rfl, rfl, by go_num, by go_num, by omega, by simp; omega, by omega, HN.out⟩
      · rcases Nat.eq_zero_or_pos stk.length with h0 | h0
        · obtain ⟨A, C, rfl⟩ := HR.out.shape
          rw [h0] at HR ⊢
          go_wp2
          go_roundg (l - (i + 1))
          case measure => omega
          case rel => exact ⟨i + 1, n, pos, F, V, stk, _, by omega, rfl, rfl, rfl, by go_num, by omega, by omega, by omega, HR.out⟩
        · obtain ⟨gs, cap0, rfl, hc1, hc2⟩ := HR.out.side.form h0
          unfold maxLen at hc2
          obtain ⟨len, hlen⟩ : ∃ len, stk.length = len := ⟨_, rfl⟩
          rw [hlen] at HR h0 hc1 hsi ⊢
          obtain ⟨kq, hkq⟩ : ∃ kq : Nat, 2 + a % 3 = (kq : Int) := ⟨(2 + a % 3).toNat, by omega⟩
          have hk5 : kq ≤ 4 := by omega
          have hk2 : 2 ≤ kq := by omega
          have HKQ := Kept.mk hkq
          clear hkq
          by_cases hbig : len < kq
          · obtain ⟨kk, hkk⟩ : ∃ kk, kk = len := ⟨_, rfl⟩
            have htk : 0 + kk = len := by omega
            go_upto_region 22 with fail
            rw [HKQ.out]
            go_upto_region 24 with fail
            obtain ⟨pre, ks, rfl, htop, hks⟩ := stack_split stk hlen htk
            have hks0 : ks ≠ [] := by intro e; rw [e] at hks; simp at hks; omega
            have HRI := Kept.mk HR.out.inv_len
            have HC := Kept.mk (group_any (w.heap.size + 2) (w.heap.size + 1) n gs 0 (cap0 - 0) (len - 0) ks F V wr 2 HR.out.tree HR.out.side.le (by omega) hks0 (List.nodup_append.1 HRI.out.1).2.1 (fun c hc => HRI.out.2 c (by simp [hc])) (HR.out.kids hlen htop) HR.out.side.off.1 HR.out.side.off.2 (by omega) (by omega))
            have HTP := Kept.mk (And.intro htop (And.intro hlen hks))
            clear htop hlen hks hks0 HRI
            have hct : ¬ (cap0 = 0) := by omega
            go_upto_region 25 with fail
            go_wp2_with fail
            refine HC.out.mono ?_
            rintro e W1 ⟨rfl, F1, V1, hT1, hG1, hL1, hK1⟩
            clear HC
            have HB1 := Kept.mk (Nat.le_trans HR.out.side.le hG1.size)
            have HS1 := Kept.mk (HR.out.cutRow HTP.out.1 hT1 hG1)
            have HTG := Kept.mk (And.intro hT1 (And.intro hG1 (And.intro hL1 hK1)))
            clear hT1 hG1 hL1 hK1
            go_wp2_with (at_builtin; refine wpList_append_lies _ rfl (.tmp 106) (.tmp 108) 26 rfl (w.heap.size + 2) 21 i21 (.int .i32 0) 1 4 Try.underlying26 HI21.out.1 HI21.out.2.1 HI21.out.2.2.1 HI21.out.2.2.2 rfl (by decide) _ 0 _ rfl (HS1.out.alloc _) ⟨W1.heap.size, 0, none⟩ 1 1 [.int .i32 (n : Int)] rfl rfl (cell_one_new _ _ _) (ints_oneCell .i32 [(n : Int)]) (by decide) (by unfold maxLen; omega) (by omega) (by have := HB1.out; simp; omega) _ rfl ?_; intro g cap w2 hown hgrow hat hlt)
            have HN := Kept.mk (HR.out.group HTP.out.1 HTG.out.1 HTG.out.2.1 HTG.out.2.2.1 (by have := HTG.out.2.2.2; omega) hown hgrow hat)
            clear hown hgrow hat hlt HTG HS1 HB1
            go_roundg (l - (i + 1))
            case measure => omega
            case rel => exact ⟨i + 1, n + 1, pos, _, V1, pre ++ [n], _, by omega, rfl, rfl, by go_num, by go_num, by omega, by have := HTP.out.1; simp; omega, by omega, HN.out⟩
          · obtain ⟨kk, hkk⟩ : ∃ kk, kk = kq := ⟨_, rfl⟩
            obtain ⟨top, ht0⟩ : ∃ top, top + kk = len := ⟨len - kk, by omega⟩
            have htk : top + kk = len := ht0
            go_upto_region 22 with fail
            rw [HKQ.out]
            go_upto_region 24 with fail
            obtain ⟨pre, ks, rfl, htop, hks⟩ := stack_split stk hlen htk
            have hks0 : ks ≠ [] := by intro e; rw [e] at hks; simp at hks; omega
            have HRI := Kept.mk HR.out.inv_len
            have HC := Kept.mk (group_any (w.heap.size + 2) (w.heap.size + 1) n gs top (cap0 - top) (len - top) ks F V wr 2 HR.out.tree HR.out.side.le (by omega) hks0 (List.nodup_append.1 HRI.out.1).2.1 (fun c hc => HRI.out.2 c (by simp [hc])) (HR.out.kids hlen htop) HR.out.side.off.1 HR.out.side.off.2 (by omega) (by omega))
            have HTP := Kept.mk (And.intro htop (And.intro hlen hks))
            clear htop hlen hks hks0 HRI
            have hct : ¬ (cap0 = top) := by omega
            have hc0 : ¬ (cap0 = 0) := by omega
            go_upto_region 25 with fail
            rw [show ((len : Nat) : Int) - ((kq : Nat) : Int) = ((top : Nat) : Int) by omega]
            go_wp2_with fail
            refine HC.out.mono ?_
            rintro e W1 ⟨rfl, F1, V1, hT1, hG1, hL1, hK1⟩
            clear HC
            have HB1 := Kept.mk (Nat.le_trans HR.out.side.le hG1.size)
            have HS1 := Kept.mk (HR.out.cutRow HTP.out.1 hT1 hG1)
            have HTG := Kept.mk (And.intro hT1 (And.intro hG1 (And.intro hL1 hK1)))
            clear hT1 hG1 hL1 hK1
            go_wp2_with (at_builtin; refine wpList_append_lies _ rfl (.tmp 106) (.tmp 108) 26 rfl (w.heap.size + 2) 21 i21 (.int .i32 0) 1 4 Try.underlying26 HI21.out.1 HI21.out.2.1 HI21.out.2.2.1 HI21.out.2.2.2 rfl (by decide) _ top _ rfl (HS1.out.alloc _) ⟨W1.heap.size, 0, none⟩ 1 1 [.int .i32 (n : Int)] rfl rfl (cell_one_new _ _ _) (ints_oneCell .i32 [(n : Int)]) (by decide) (by unfold maxLen; omega) (by omega) (by have := HB1.out; simp; omega) _ rfl ?_; intro g cap w2 hown hgrow hat hlt)
            have HN := Kept.mk (HR.out.group HTP.out.1 HTG.out.1 HTG.out.2.1 HTG.out.2.2.1 (by have := HTG.out.2.2.2; omega) hown hgrow hat)
            clear hown hgrow hat hlt HTG HS1 HB1
            go_roundg (l - (i + 1))
            case measure => omega
            case rel => exact ⟨i + 1, n + 1, pos, _, V1, pre ++ [n], _, by omega, rfl, rfl, by go_num, by go_num, by omega, by have := HTP.out.1; simp; omega, by omega, HN.out⟩
      · rcases Nat.eq_zero_or_pos stk.length with h0 | h0
        · obtain ⟨A, C, rfl⟩ := HR.out.shape
          rw [h0] at HR ⊢
          go_wp2
          go_roundg (l - (i + 1))
          case measure => omega
          case rel => exact ⟨i + 1, n, pos, F, V, stk, _, by omega, rfl, rfl, rfl, by go_num, by omega, by omega, by omega, HR.out⟩
        · obtain ⟨gs, cap0, rfl, hc1, hc2⟩ := HR.out.side.form h0
          unfold maxLen at hc2
          obtain ⟨len, hlen⟩ : ∃ len, stk.length = len := ⟨_, rfl⟩
          rw [hlen] at HR h0 hc1 hsi ⊢
          obtain ⟨kq, hkq⟩ : ∃ kq : Nat, 2 + a % 3 = (kq : Int) := ⟨(2 + a % 3).toNat, by omega⟩
          have hk5 : kq ≤ 4 := by omega
          have hk2 : 2 ≤ kq := by omega
          have HKQ := Kept.mk hkq
          clear hkq
          by_cases hbig : len < kq
          · obtain ⟨kk, hkk⟩ : ∃ kk, kk = len := ⟨_, rfl⟩
            have htk : 0 + kk = len := by omega
            go_upto_region 22 with fail
            rw [HKQ.out]
            go_upto_region 24 with fail
            obtain ⟨pre, ks, rfl, htop, hks⟩ := stack_split stk hlen htk
            have hks0 : ks ≠ [] := by intro e; rw [e] at hks; simp at hks; omega
            have HRI := Kept.mk HR.out.inv_len
            have HC := Kept.mk (group_any (w.heap.size + 2) (w.heap.size + 1) n gs 0 (cap0 - 0) (len - 0) ks F V wr 3 HR.out.tree HR.out.side.le (by omega) hks0 (List.nodup_append.1 HRI.out.1).2.1 (fun c hc => HRI.out.2 c (by simp [hc])) (HR.out.kids hlen htop) HR.out.side.off.1 HR.out.side.off.2 (by omega) (by omega))
            have HTP := Kept.mk (And.intro htop (And.intro hlen hks))
            clear htop hlen hks hks0 HRI
            have hct : ¬ (cap0 = 0) := by omega
            go_upto_region 25 with fail
            go_wp2_with fail
            refine HC.out.mono ?_
            rintro e W1 ⟨rfl, F1, V1, hT1, hG1, hL1, hK1⟩
            clear HC
            have HB1 := Kept.mk (Nat.le_trans HR.out.side.le hG1.size)
            have HS1 := Kept.mk (HR.out.cutRow HTP.out.1 hT1 hG1)
            have HTG := Kept.mk (And.intro hT1 (And.intro hG1 (And.intro hL1 hK1)))
            clear hT1 hG1 hL1 hK1
            go_wp2_with (at_builtin; refine wpList_append_lies _ rfl (.tmp 106) (.tmp 108) 26 rfl (w.heap.size + 2) 21 i21 (.int .i32 0) 1 4 Try.underlying26 HI21.out.1 HI21.out.2.1 HI21.out.2.2.1 HI21.out.2.2.2 rfl (by decide) _ 0 _ rfl (HS1.out.alloc _) ⟨W1.heap.size, 0, none⟩ 1 1 [.int .i32 (n : Int)] rfl rfl (cell_one_new _ _ _) (ints_oneCell .i32 [(n : Int)]) (by decide) (by unfold maxLen; omega) (by omega) (by have := HB1.out; simp; omega) _ rfl ?_; intro g cap w2 hown hgrow hat hlt)
            have HN := Kept.mk (HR.out.group HTP.out.1 HTG.out.1 HTG.out.2.1 HTG.out.2.2.1 (by have := HTG.out.2.2.2; omega) hown hgrow hat)
            clear hown hgrow hat hlt HTG HS1 HB1
            go_roundg (l - (i + 1))
            case measure => omega
            case rel => exact ⟨i + 1, n + 1, pos, _, V1, pre ++ [n], _, by omega, rfl, rfl, by go_num, by go_num, by omega, by have := HTP.out.1; simp; omega, by omega, HN.out⟩
          · obtain ⟨kk, hkk⟩ : ∃ kk, kk = kq := ⟨_, rfl⟩
            obtain ⟨top, ht0⟩ : ∃ top, top + kk = len := ⟨len - kk, by omega⟩
            have htk : top + kk = len := ht0
            go_upto_region 22 with fail
            rw [HKQ.out]
            go_upto_region 24 with fail
            obtain ⟨pre, ks, rfl, htop, hks⟩ := stack_split stk hlen htk
            have hks0 : ks ≠ [] := by intro e; rw [e] at hks; simp at hks; omega
            have HRI := Kept.mk HR.out.inv_len
            have HC := Kept.mk (group_any (w.heap.size + 2) (w.heap.size + 1) n gs top (cap0 - top) (len - top) ks F V wr 3 HR.out.tree HR.out.side.le (by omega) hks0 (List.nodup_append.1 HRI.out.1).2.1 (fun c hc => HRI.out.2 c (by simp [hc])) (HR.out.kids hlen htop) HR.out.side.off.1 HR.out.side.off.2 (by omega) (by omega))
            have HTP := Kept.mk (And.intro htop (And.intro hlen hks))
            clear htop hlen hks hks0 HRI
            have hct : ¬ (cap0 = top) := by omega
            have hc0 : ¬ (cap0 = 0) := by omega
            go_upto_region 25 with fail
            rw [show ((len : Nat) : Int) - ((kq : Nat) : Int) = ((top : Nat) : Int) by omega]
            go_wp2_with fail
            refine HC.out.mono ?_
            rintro e W1 ⟨rfl, F1, V1, hT1, hG1, hL1, hK1⟩
            clear HC
            have HB1 := Kept.mk (Nat.le_trans HR.out.side.le hG1.size)
            have HS1 := Kept.mk (HR.out.cutRow HTP.out.1 hT1 hG1)
            have HTG := Kept.mk (And.intro hT1 (And.intro hG1 (And.intro hL1 hK1)))
            clear hT1 hG1 hL1 hK1
            go_wp2_with (at_builtin; refine wpList_append_lies _ rfl (.tmp 106) (.tmp 108) 26 rfl (w.heap.size + 2) 21 i21 (.int .i32 0) 1 4 Try.underlying26 HI21.out.1 HI21.out.2.1 HI21.out.2.2.1 HI21.out.2.2.2 rfl (by decide) _ top _ rfl (HS1.out.alloc _) ⟨W1.heap.size, 0, none⟩ 1 1 [.int .i32 (n : Int)] rfl rfl (cell_one_new _ _ _) (ints_oneCell .i32 [(n : Int)]) (by decide) (by unfold maxLen; omega) (by omega) (by have := HB1.out; simp; omega) _ rfl ?_; intro g cap w2 hown hgrow hat hlt)
            have HN := Kept.mk (HR.out.group HTP.out.1 HTG.out.1 HTG.out.2.1 HTG.out.2.2.1 (by have := HTG.out.2.2.2; omega) hown hgrow hat)
            clear hown hgrow hat hlt HTG HS1 HB1
            go_roundg (l - (i + 1))
            case measure => omega
            case rel => exact ⟨i + 1, n + 1, pos, _, V1, pre ++ [n], _, by omega, rfl, rfl, by go_num, by go_num, by omega, by have := HTP.out.1; simp; omega, by omega, HN.out⟩
      · rcases Nat.eq_zero_or_pos stk.length with h0 | h0
        · obtain ⟨A, C, rfl⟩ := HR.out.shape
          rw [h0] at HR ⊢
          go_wp2
          go_roundg (l - (i + 1))
          case measure => omega
          case rel => exact ⟨i + 1, n, pos, F, V, stk, _, by omega, rfl, rfl, rfl, by go_num, by omega, by omega, by omega, HR.out⟩
        · obtain ⟨gs, cap0, rfl, hc1, hc2⟩ := HR.out.side.form h0
          unfold maxLen at hc2
          obtain ⟨len, hlen⟩ : ∃ len, stk.length = len := ⟨_, rfl⟩
          rw [hlen] at HR h0 hc1 hsi ⊢
          obtain ⟨top, htl⟩ : ∃ top, len = top + 1 := ⟨len - 1, by omega⟩
          obtain ⟨pre, ks, rfl, htop, hks⟩ := stack_split stk (len := len) (k := 1) (top := top) hlen (by omega)
          obtain ⟨c, rfl⟩ : ∃ c, ks = [c] := by
            match ks, hks with
            | [c], _ => exact ⟨c, rfl⟩
          have HTP := Kept.mk (And.intro htl htop)
          have hm5 : 0 ≤ a % 5 ∧ a % 5 ≤ 4 := by omega
          have hb4 : 0 ≤ bz i % 4294967296 % 4 ∧ bz i % 4294967296 % 4 ≤ 3 := by omega
          have HM5 := Kept.mk hm5
          have HB4 := Kept.mk hb4
          clear hlen htop hks hm5 hb4
          have e1 : ((len : Nat) : Int) - 1 = ((top : Nat) : Int) := by omega
          have HE1 := Kept.mk e1
          clear e1
          have htl2 : top < len := by omega
          by_cases hbb : 0 ≤ bz i
          · go_upto_region 34 with fail
            have hmn : 0 ≤ a % 5 ∧ a % 5 ≤ 4 := by omega
            have hmx : -1 ≤ a % 5 + bz i % 4 ∧ a % 5 + bz i % 4 ≤ 7 := by omega
            generalize a % 5 + bz i % 4 = mx at hmx ⊢
            generalize a % 5 = mn at hmn ⊢
            clear HM5 HB4 HE1 htl
            go_wp2_with fail
            refine (add_any (w.heap.size + 2) (w.heap.size + 1) n F V wr HR.out.tree HR.out.side.le (by omega) 4 0 0 0 0 mn mx).mono ?_
            rintro e W1 ⟨rfl, V1, hT1, hG1⟩
            obtain ⟨g2, c2, hf2⟩ := hT1.form (by omega) 2 (by omega)
            obtain ⟨n1, hn1⟩ : ∃ n1, n1 = n + 1 := ⟨_, rfl⟩
            obtain ⟨t1, t2, t3⟩ := HR.out.top HTP.out.1 HTP.out.2 hT1 hG1 hf2
            have d2 : W1.cell? ⟨w.heap.size + 1, 2, none⟩ = some (.slice (some ⟨g2, 0, none⟩) n1 c2) := by rw [hT1.cell 2 (by omega), hf2, hn1]
            have hnn : n < n1 := by omega
            have m2 : W1.cell? ⟨g2, n, none⟩ = some (.int .i32 (addF F n 4 0 0 0 0 mn mx 2 n)) := hT1.at (by omega) hf2 (by omega)
            have z2 := hT1.frz (by omega) hf2 n
            have HN := Kept.mk (HR.out.rep HTP.out.1 HTP.out.2 hmn hmx hT1 hG1 hf2)
            generalize addF F n 4 0 0 0 0 mn mx 2 n = y at m2
            clear hT1 hG1 hf2 hn1
            go_upto_region 35 with fail
            refine wp_region_still_tail 8 (by kernel_rfl) (by kernel_rfl) ?_
            simp only [List.take_succ_cons, List.take_zero, List.drop_succ_cons, List.drop_zero]
            repeat still_step
            refine wpStill_nil ?_
            go_wp2
            go_roundg (l - (i + 1))
            case measure => omega
            case rel => exact ⟨i + 1, n + 1, pos, _, V1, pre ++ [n], _, by omega, rfl, rfl, rfl, by go_num, by omega, by have := HTP.out.2; simp; omega, by omega, HN.out⟩
          · go_upto_region 34 with fail
            have hmn : 0 ≤ a % 5 ∧ a % 5 ≤ 4 := by omega
            have hmx : -1 ≤ (-1 : Int) ∧ (-1 : Int) ≤ 7 := by omega
            generalize a % 5 = mn at hmn ⊢
            clear HM5 HB4 HE1 htl
            go_wp2_with fail
            refine (add_any (w.heap.size + 2) (w.heap.size + 1) n F V wr HR.out.tree HR.out.side.le (by omega) 4 0 0 0 0 mn (-1)).mono ?_
            rintro e W1 ⟨rfl, V1, hT1, hG1⟩
            obtain ⟨g2, c2, hf2⟩ := hT1.form (by omega) 2 (by omega)
            obtain ⟨n1, hn1⟩ : ∃ n1, n1 = n + 1 := ⟨_, rfl⟩
            obtain ⟨t1, t2, t3⟩ := HR.out.top HTP.out.1 HTP.out.2 hT1 hG1 hf2
            have d2 : W1.cell? ⟨w.heap.size + 1, 2, none⟩ = some (.slice (some ⟨g2, 0, none⟩) n1 c2) := by rw [hT1.cell 2 (by omega), hf2, hn1]
            have hnn : n < n1 := by omega
            have m2 : W1.cell? ⟨g2, n, none⟩ = some (.int .i32 (addF F n 4 0 0 0 0 mn (-1) 2 n)) := hT1.at (by omega) hf2 (by omega)
            have z2 := hT1.frz (by omega) hf2 n
            have HN := Kept.mk (HR.out.rep HTP.out.1 HTP.out.2 hmn hmx hT1 hG1 hf2)
            generalize addF F n 4 0 0 0 0 mn (-1) 2 n = y at m2
            clear hT1 hG1 hf2 hn1
            go_upto_region 35 with fail
            refine wp_region_still_tail 8 (by kernel_rfl) (by kernel_rfl) ?_
            simp only [List.take_succ_cons, List.take_zero, List.drop_succ_cons, List.drop_zero]
            repeat still_step
            refine wpStill_nil ?_
            go_wp2
            go_roundg (l - (i + 1))
            case measure => omega
            case rel => exact ⟨i + 1, n + 1, pos, _, V1, pre ++ [n], _, by omega, rfl, rfl, rfl, by go_num, by omega, by have := HTP.out.2; simp; omega, by omega, HN.out⟩
    · obtain rfl : i = l := by omega
      have HR := Kept.mk hR
      clear hR
      obtain ⟨A, C, rfl⟩ := HR.out.shape
      obtain ⟨len, hlen⟩ : ∃ len, stk.length = len := ⟨_, rfl⟩
      rw [hlen] at HR hsi ⊢
      have HL := Kept.mk hlen
      clear hlen
      rcases (show len = 0 ∨ len = 1 ∨ 1 < len by omega) with rfl | rfl | hl2
      · have HT9 := Kept.mk (And.intro HR.out.tree (And.intro HR.out.side.aside (HR.out.side.aside.below HFr.out)))
        generalize wr = W9 at HT9 ⊢
        generalize n = m9 at HT9
        obtain ⟨A9, C9, hV9⟩ := HT9.out.1.slices
        have HQ := Kept.mk (tree9_of HT9.out.2.2 HT9.out.1 hV9 false (fun h => by cases h))
        have c0 : W9.cell? ⟨w.heap.size + 1, 0, none⟩ = some (.slice (A9 0) m9 (C9 0)) := by rw [HT9.out.1.cell 0 (by omega), hV9 0 (by omega)]
        have c1 : W9.cell? ⟨w.heap.size + 1, 1, none⟩ = some (.slice (A9 1) m9 (C9 1)) := by rw [HT9.out.1.cell 1 (by omega), hV9 1 (by omega)]
        have c2 : W9.cell? ⟨w.heap.size + 1, 2, none⟩ = some (.slice (A9 2) m9 (C9 2)) := by rw [HT9.out.1.cell 2 (by omega), hV9 2 (by omega)]
        have c3 : W9.cell? ⟨w.heap.size + 1, 3, none⟩ = some (.slice (A9 3) m9 (C9 3)) := by rw [HT9.out.1.cell 3 (by omega), hV9 3 (by omega)]
        have c4 : W9.cell? ⟨w.heap.size + 1, 4, none⟩ = some (.slice (A9 4) m9 (C9 4)) := by rw [HT9.out.1.cell 4 (by omega), hV9 4 (by omega)]
        have c5 : W9.cell? ⟨w.heap.size + 1, 5, none⟩ = some (.slice (A9 5) m9 (C9 5)) := by rw [HT9.out.1.cell 5 (by omega), hV9 5 (by omega)]
        have c6 : W9.cell? ⟨w.heap.size + 1, 6, none⟩ = some (.slice (A9 6) m9 (C9 6)) := by rw [HT9.out.1.cell 6 (by omega), hV9 6 (by omega)]
        have c7 : W9.cell? ⟨w.heap.size + 1, 7, none⟩ = some (.slice (A9 7) m9 (C9 7)) := by rw [HT9.out.1.cell 7 (by omega), hV9 7 (by omega)]
        have c8 : W9.cell? ⟨w.heap.size + 1, 8, none⟩ = some (.slice (A9 8) m9 (C9 8)) := by rw [HT9.out.1.cell 8 (by omega), hV9 8 (by omega)]
        obtain ⟨hr, hz⟩ := HT9.out.2.1.res HFr.out
        have r0 := hr 0 (by omega)
        have z0 := hz 0
        have r1 := hr 1 (by omega)
        have z1 := hz 1
        have r2 := hr 2 (by omega)
        have z2 := hz 2
        have r3 := hr 3 (by omega)
        have z3 := hz 3
        have r4 := hr 4 (by omega)
        have z4 := hz 4
        have r5 := hr 5 (by omega)
        have z5 := hz 5
        have r6 := hr 6 (by omega)
        have z6 := hz 6
        have r7 := hr 7 (by omega)
        have z7 := hz 7
        have r8 := hr 8 (by omega)
        have z8 := hz 8
        clear hr hz hV9 HT9
        unfold agg9 st9 at HQ
        go_wp2
        (try simp only [Exit.inBlock, Exit.then])
        refine bodyPost_ret (v := .tuple #[.agg #[.slice (A9 0) m9 (C9 0), .slice (A9 1) m9 (C9 1), .slice (A9 2) m9 (C9 2), .slice (A9 3) m9 (C9 3), .slice (A9 4) m9 (C9 4), .slice (A9 5) m9 (C9 5), .slice (A9 6) m9 (C9 6), .slice (A9 7) m9 (C9 7), .slice (A9 8) m9 (C9 8)], .bool false]) ?_ rfl HQ.out
        rw [results_cell_tmp rfl]
        go_simp
      · obtain ⟨r, hr⟩ : ∃ r, stk = [r] := by
          have := HL.out
          match stk, this with
          | [r], _ => exact ⟨r, rfl⟩
        subst hr
        have HT9 := Kept.mk (And.intro HR.out.tree (And.intro HR.out.side.aside (HR.out.side.aside.below HFr.out)))
        have HI9 := Kept.mk (show n ≤ 4097 ∧ ∃ K r, Inv F n [r] K from ⟨by omega, by obtain ⟨K, hK⟩ := HR.out.inv; exact ⟨K, r, hK⟩⟩)
        clear HR
        generalize wr = W9 at HT9 ⊢
        generalize n = m9 at HT9 HI9
        obtain ⟨A9, C9, hV9⟩ := HT9.out.1.slices
        have HQ := Kept.mk (tree9_of HT9.out.2.2 HT9.out.1 hV9 true (fun _ => HI9.out))
        have c0 : W9.cell? ⟨w.heap.size + 1, 0, none⟩ = some (.slice (A9 0) m9 (C9 0)) := by rw [HT9.out.1.cell 0 (by omega), hV9 0 (by omega)]
        have c1 : W9.cell? ⟨w.heap.size + 1, 1, none⟩ = some (.slice (A9 1) m9 (C9 1)) := by rw [HT9.out.1.cell 1 (by omega), hV9 1 (by omega)]
        have c2 : W9.cell? ⟨w.heap.size + 1, 2, none⟩ = some (.slice (A9 2) m9 (C9 2)) := by rw [HT9.out.1.cell 2 (by omega), hV9 2 (by omega)]
        have c3 : W9.cell? ⟨w.heap.size + 1, 3, none⟩ = some (.slice (A9 3) m9 (C9 3)) := by rw [HT9.out.1.cell 3 (by omega), hV9 3 (by omega)]
        have c4 : W9.cell? ⟨w.heap.size + 1, 4, none⟩ = some (.slice (A9 4) m9 (C9 4)) := by rw [HT9.out.1.cell 4 (by omega), hV9 4 (by omega)]
        have c5 : W9.cell? ⟨w.heap.size + 1, 5, none⟩ = some (.slice (A9 5) m9 (C9 5)) := by rw [HT9.out.1.cell 5 (by omega), hV9 5 (by omega)]
        have c6 : W9.cell? ⟨w.heap.size + 1, 6, none⟩ = some (.slice (A9 6) m9 (C9 6)) := by rw [HT9.out.1.cell 6 (by omega), hV9 6 (by omega)]
        have c7 : W9.cell? ⟨w.heap.size + 1, 7, none⟩ = some (.slice (A9 7) m9 (C9 7)) := by rw [HT9.out.1.cell 7 (by omega), hV9 7 (by omega)]
        have c8 : W9.cell? ⟨w.heap.size + 1, 8, none⟩ = some (.slice (A9 8) m9 (C9 8)) := by rw [HT9.out.1.cell 8 (by omega), hV9 8 (by omega)]
        obtain ⟨hr, hz⟩ := HT9.out.2.1.res HFr.out
        have r0 := hr 0 (by omega)
        have z0 := hz 0
        have r1 := hr 1 (by omega)
        have z1 := hz 1
        have r2 := hr 2 (by omega)
        have z2 := hz 2
        have r3 := hr 3 (by omega)
        have z3 := hz 3
        have r4 := hr 4 (by omega)
        have z4 := hz 4
        have r5 := hr 5 (by omega)
        have z5 := hz 5
        have r6 := hr 6 (by omega)
        have z6 := hz 6
        have r7 := hr 7 (by omega)
        have z7 := hz 7
        have r8 := hr 8 (by omega)
        have z8 := hz 8
        clear hr hz hV9 HT9
        unfold agg9 st9 at HQ
        go_wp2
        (try simp only [Exit.inBlock, Exit.then])
        refine bodyPost_ret (v := .tuple #[.agg #[.slice (A9 0) m9 (C9 0), .slice (A9 1) m9 (C9 1), .slice (A9 2) m9 (C9 2), .slice (A9 3) m9 (C9 3), .slice (A9 4) m9 (C9 4), .slice (A9 5) m9 (C9 5), .slice (A9 6) m9 (C9 6), .slice (A9 7) m9 (C9 7), .slice (A9 8) m9 (C9 8)], .bool true]) ?_ rfl HQ.out
        rw [results_cell_tmp rfl]
        go_simp
      · obtain ⟨gs, cap0, hsl, hc1, hc2⟩ := HR.out.side.form (by have := HL.out; omega)
        rw [HL.out] at hsl hc1
        obtain ⟨rfl, _, rfl⟩ := Value.slice.inj hsl
        clear hsl
        unfold maxLen at hc2
        have HRI := Kept.mk HR.out.inv_len
        have HC := Kept.mk (group_any (w.heap.size + 2) (w.heap.size + 1) n gs 0 C len stk F V wr 2 HR.out.tree HR.out.side.le (by omega) (by intro e; have := HL.out; rw [e] at this; simp at this; omega) HRI.out.1 HRI.out.2 (HR.out.kids (pre := []) HL.out rfl) HR.out.side.off.1 HR.out.side.off.2 HL.out (by omega))
        go_wp2_with fail
        refine HC.out.mono ?_
        rintro e W9 ⟨rfl, F1, V1, hT1, hG1, hL1, hK1⟩
        clear HC
        have HS9 := HR.out.side.grew hG1 hT1
        have HT9 := Kept.mk (And.intro hT1 (And.intro HS9.aside (HS9.aside.below HFr.out)))
        have HI9 := Kept.mk (show n + 1 ≤ 4097 ∧ ∃ K r, Inv F1 (n + 1) [r] K from ⟨by omega, by
          obtain ⟨K, hK⟩ := HR.out.inv
          obtain ⟨K', hK'⟩ := inv_group (pre := []) hK hL1 (.inl hK1)
          exact ⟨K', n, hK'⟩⟩)
        clear hT1 hG1 hL1 hK1 HS9 HR HRI
        generalize n + 1 = m9 at HT9 HI9
        obtain ⟨A9, C9, hV9⟩ := HT9.out.1.slices
        have HQ := Kept.mk (tree9_of HT9.out.2.2 HT9.out.1 hV9 true (fun _ => HI9.out))
        have c0 : W9.cell? ⟨w.heap.size + 1, 0, none⟩ = some (.slice (A9 0) m9 (C9 0)) := by rw [HT9.out.1.cell 0 (by omega), hV9 0 (by omega)]
        have c1 : W9.cell? ⟨w.heap.size + 1, 1, none⟩ = some (.slice (A9 1) m9 (C9 1)) := by rw [HT9.out.1.cell 1 (by omega), hV9 1 (by omega)]
        have c2 : W9.cell? ⟨w.heap.size + 1, 2, none⟩ = some (.slice (A9 2) m9 (C9 2)) := by rw [HT9.out.1.cell 2 (by omega), hV9 2 (by omega)]
        have c3 : W9.cell? ⟨w.heap.size + 1, 3, none⟩ = some (.slice (A9 3) m9 (C9 3)) := by rw [HT9.out.1.cell 3 (by omega), hV9 3 (by omega)]
        have c4 : W9.cell? ⟨w.heap.size + 1, 4, none⟩ = some (.slice (A9 4) m9 (C9 4)) := by rw [HT9.out.1.cell 4 (by omega), hV9 4 (by omega)]
        have c5 : W9.cell? ⟨w.heap.size + 1, 5, none⟩ = some (.slice (A9 5) m9 (C9 5)) := by rw [HT9.out.1.cell 5 (by omega), hV9 5 (by omega)]
        have c6 : W9.cell? ⟨w.heap.size + 1, 6, none⟩ = some (.slice (A9 6) m9 (C9 6)) := by rw [HT9.out.1.cell 6 (by omega), hV9 6 (by omega)]
        have c7 : W9.cell? ⟨w.heap.size + 1, 7, none⟩ = some (.slice (A9 7) m9 (C9 7)) := by rw [HT9.out.1.cell 7 (by omega), hV9 7 (by omega)]
        have c8 : W9.cell? ⟨w.heap.size + 1, 8, none⟩ = some (.slice (A9 8) m9 (C9 8)) := by rw [HT9.out.1.cell 8 (by omega), hV9 8 (by omega)]
        obtain ⟨hr, hz⟩ := HT9.out.2.1.res HFr.out
        have r0 := hr 0 (by omega)
        have z0 := hz 0
        have r1 := hr 1 (by omega)
        have z1 := hz 1
        have r2 := hr 2 (by omega)
        have z2 := hz 2
        have r3 := hr 3 (by omega)
        have z3 := hz 3
        have r4 := hr 4 (by omega)
        have z4 := hz 4
        have r5 := hr 5 (by omega)
        have z5 := hz 5
        have r6 := hr 6 (by omega)
        have z6 := hz 6
        have r7 := hr 7 (by omega)
        have z7 := hz 7
        have r8 := hr 8 (by omega)
        have z8 := hz 8
        clear hr hz hV9 HT9
        unfold agg9 st9 at HQ
        go_wp2
        (try simp only [Exit.inBlock, Exit.then])
        refine bodyPost_ret (v := .tuple #[.agg #[.slice (A9 0) m9 (C9 0), .slice (A9 1) m9 (C9 1), .slice (A9 2) m9 (C9 2), .slice (A9 3) m9 (C9 3), .slice (A9 4) m9 (C9 4), .slice (A9 5) m9 (C9 5), .slice (A9 6) m9 (C9 6), .slice (A9 7) m9 (C9 7), .slice (A9 8) m9 (C9 8)], .bool true]) ?_ rfl HQ.out
        rw [results_cell_tmp rfl]
        go_simp

end Go.Proofs.Qxb6000433a
