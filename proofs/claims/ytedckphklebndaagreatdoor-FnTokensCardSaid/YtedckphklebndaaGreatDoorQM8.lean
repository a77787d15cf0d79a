/- The law on the reference's tokens, walked. Conditions: the tables of unicode/utf8 lie in blocks 0 and 1. -/
import Derived.Test.YtedckphklebndaaGreatDoorQM2
namespace Go.Proofs.YtedckphklebndaaGreatDoor
open Go Go.RowKit
/-- A token of the reference, as the laws see it. -/
def TT (s : ByteArray) (t : Tok × List Int × List Int) : PT := ⟨t.1.kind, ps s t.2.1, ps s t.2.2, t.1.unit, t.1.id, ⟨t.1.text.toArray⟩⟩
theorem TT.ab {s : ByteArray} {t : Tok × List Int × List Int} (h : t.1.kind = 26 → t.1.unit % 65536 = t.1.unit) : abP (TT s t) = ab t.1 := by
  unfold abP TT Proofs.YtedckphklebndaaGreatDoor.ab
  by_cases e : t.1.kind = 26
  · rw [if_pos e, if_pos e, h e]
  · rw [if_neg e, if_neg e]
theorem TT.abs {s : ByteArray} {l : List Int} (hl : (encs l).length ≤ 65535) : ((toks l).1.map (TT s)).map abP = abs_ (toks l).1 := by
  unfold abs_
  rw [List.map_map]
  exact List.map_congr_left (fun t ht => TT.ab (fun _ => toks_unit ht hl))
/-- The law, in plain lists. -/
theorem plain8 {s : ByteArray} {l : List Int} {L : List PT} (ho : (toks l).2 = false) (hl : (encs l).length ≤ 65535) (h : Fa2 (PR s) (ptoks l) L) : allAlikeB L ((toks l).1.map (TT s)) = true := by
  apply allAlike_of
  rw [PR.view h ho, view_idem, TT.abs hl]; rfl
/-- Place by place. -/
def SamP (p q : PT) : Prop := p.k = q.k ∧ ((p.k != 38) = true → p.a = q.a ∧ p.b = q.b)
theorem fa2_map {α β γ : Type} {R : α → β → Prop} {S : γ → β → Prop} {f : α → γ} (h : ∀ a b, R a b → S (f a) b) {l : List α} {m : List β} (hf : Fa2 R l m) : Fa2 S (l.map f) m := by
  induction hf with
  | nil => exact .nil
  | cons h1 _ ih => exact .cons (h _ _ h1) ih
theorem fa2_trans {α β γ : Type} {R : α → β → Prop} {S : β → γ → Prop} {T : γ → α → Prop} (h : ∀ a b c, R a b → S b c → T c a) {l : List α} {m : List β} {n : List γ} (h1 : Fa2 R l m) (h2 : Fa2 S m n) : Fa2 T n l := by
  induction h1 generalizing n with
  | nil => cases h2; exact .nil
  | cons a _ ih => cases h2 with
    | cons b h2 => exact .cons (h _ _ _ a b) (ih h2)
theorem mrgP_TT (s : ByteArray) (ts : List (Tok × List Int × List Int)) : mrgP (ts.map (TT s)) = (mrg isW false ts).map (TT s) := mrg_map isW wh (TT s) (fun _ => rfl) ts false
theorem plain8b {s : ByteArray} {l : List Int} {L : List PT} (ho : (toks l).2 = false) (h : Fa2 (PR s) (ptoks l) L) : Fa2 SamP L (mrgP ((toks l).1.map (TT s))) := by
  have h1 := (ptoks_toks l ho).1
  rw [mrgP_TT]
  have key : Fa2 (fun c a => SamP c (TT s a)) L (mrg isW false (toks l).1) := fa2_trans (R := Sam) (S := PR s) (fun a b c hs hp => by
    refine ⟨by rw [hp.1, ← hs.1]; rfl, fun hk => ⟨?_, ?_⟩⟩
    · rw [hp.2.1, ← hs.2.1]; rfl
    · rw [hp.2.2.1, ← hs.2.2 (by rw [hs.1, ← hp.1]; simpa using hk)]; rfl) h1 h
  clear h h1
  generalize mrg isW false (toks l).1 = m at key
  induction key with
  | nil => exact .nil
  | cons h1 _ ih => exact .cons h1 ih
theorem toks_row (s : ByteArray) (ts : List (Tok × List Int × List Int)) : toksCells s ts = rowC (ts.map (TT s)) := by
  unfold toksCells rowC
  rw [List.flatMap_map]
  rfl
theorem row_parts {w : World} {B T : Nat} {v : Value} {L : List PT} (h : w.ownsRow B T 6 v L.length (rowC L)) : (v = .slice none 0 0 ∧ L = []) ∨
    ∃ g cap cur, v = .slice (some ⟨g, 0, none⟩) L.length cap ∧ B ≤ g ∧ w.heap[g]? = some (.cells cur T (0, 0)) ∧ L.length ≤ cap ∧ ∀ (j i : Nat) (p : PT), L[j]? = some p → i < 6 → cur[j * 6 + i]? = p.cells[i]? := by
  rcases h.2 with ⟨rfl, hn⟩ | ⟨g, cap, cur, rfl, hb, hg, hc, hm, hs, ht⟩
  · exact .inl ⟨rfl, List.length_eq_zero_iff.1 hn⟩
  · refine .inr ⟨g, cap, cur, rfl, hb, hg, hc, ?_⟩
    intro j i p hj hi
    have hlt : j < L.length := (List.getElem?_eq_some_iff.1 hj).1
    have e := rowC_get L j i p hj hi
    rw [← ht, List.getElem?_take_of_lt (by omega)] at e
    rw [← e]; simp
theorem Rw.oneP {w : World} {k B : Nat} (p : PT) (h : w.heap[k]? = some (.cells #[.int .i64 p.k, .int .i64 p.a, .int .i64 p.b, .int .i64 p.u, .bool p.id, .string p.t] 28 (0, 0))) (hB : B ≤ k) : Rw w B (.slice (some ⟨k, 0, none⟩) 1 1) [p] := ⟨rfl, .inr ⟨k, 1, _, rfl, hB, h, Nat.le_refl _, (by unfold maxLen; omega), rfl, rfl⟩⟩
theorem toks_len (l : List Int) : (toks l).1.length ≤ l.length := by
  induction hn : l.length using Nat.strongRecOn generalizing l with
  | _ n ih =>
    by_cases e : (cmtsF l).1 = []
    · rw [toks_nil e]; simp
    · have h2 := nextF_lt e
      have hle := cmtsF_le l
      rw [toks_cons e, List.length_cons]
      have := ih _ (by omega) (nextF (cmtsF l).1).2.1 rfl
      omega
/-- The loop that copies the reference's tokens. -/
def TWL (w0 : World) (M : List PT) (n : Nat) (a i : Value) (w : World) : Prop := ∃ j : Nat, i = .int .i64 (j : Nat) ∧ n = M.length - j ∧ j ≤ M.length ∧ Rw w w0.heap.size a (M.take j) ∧ Below w0.heap.size w0 w
theorem fa2_get {α β : Type} {R : α → β → Prop} {a : List α} {b : List β} (h : Fa2 R a b) {j : Nat} {y : β} (hj : b[j]? = some y) : ∃ x, a[j]? = some x ∧ R x y := by
  induction h generalizing j with
  | nil => cases hj
  | cons h _ ih =>
    cases j with
    | zero => simp only [List.getElem?_cons_zero, Option.some.injEq] at hj; subst hj; exact ⟨_, rfl, h⟩
    | succ j => simp only [List.getElem?_cons_succ] at hj ⊢; exact ih hj
/-- A loop over a row. -/
def RwL8 (w0 : World) (m : Nat) (n : Nat) (i : Value) (w : World) : Prop := ∃ j : Nat, i = .int .i64 (j : Nat) ∧ n = m - j ∧ j ≤ m ∧ Below w0.heap.size w0 w
set_option maxRecDepth 100000 in
set_option maxHeartbeats 8000000 in
theorem law8 {w : World} (s : ByteArray) (h2 : 2 ≤ w.heap.size) (htab : Lib.Utf8Tabs 0 1 w) : Calls Tryz.prog 8 #[.string s] w (LawP w) := by
  by_cases hbig : (s.size : Int) > 2147483647
  · go_enter Tryz.func8, Tryz.ntmps8
    go_wp2_with fail
    go_ret
    exact ⟨rfl, Below.refl _ _⟩
  go_enter Tryz.func8, Tryz.ntmps8
  go_wp2_with fail
  refine (whole_calls s (by omega) _).mono ?_
  rintro e w1 ⟨b, rfl, hb1, hK1⟩
  have hb := hK1.law
  cases b with
  | false =>
    clear hb1
    go_wp2_with (go_at_call 10; refine (wakes_at h2 htab hb).mono ?_; rintro e w2 ⟨rfl, hb2⟩)
    go_ret
    exact ⟨rfl, hb2⟩
  | true =>
    obtain ⟨l, hW⟩ := hb1 rfl
    have hsz := hW.2.2.2.2
    have HW := Lib.hid hW
    have HEN : Hid ((encs l).length ≤ 65535) := Lib.hid (by have := hW.1.fits; omega)
    clear hb1 hW hK1
    go_wp2_with fail
    refine (Tokens_calls s l HW.out.1 HW.out.2.1 (by omega) _).mono ?_
    rintro e w2 ⟨v6, vC, rfl, hrow, hbS⟩
    have hb2 := below_more hb hbS
    rw [toks_row] at hrow
    obtain ⟨M, hM⟩ : ∃ M, (toks l).1.map (TT s) = M := ⟨_, rfl⟩
    rw [show (toks l).1.length = M.length by rw [← hM, List.length_map], hM] at hrow
    have HM := Lib.hid hM
    have HML : Hid (M.length ≤ 32768) := Lib.hid (by
      rw [← hM, List.length_map]
      have h3 := toks_len l
      have h4 := encs_ge l
      have h5 := HW.out.1.fits
      omega)
    clear hM hbS hb hbig
    obtain ⟨p9, cp9, rfl⟩ := own_slice hrow
    go_wp2_with fail
    go_loopg [6, 28] M.length (fun n a i wr => TWL w2 M n a i wr)
    case atStart => exact ⟨0, rfl, rfl, Nat.zero_le _, World.ownsRow_nil _ _ _ _, Below.refl _ _⟩
    case round =>
      obtain ⟨j, rfl, hn, hj, hrw, hbel⟩ := hrel
      have HN := Lib.hid hn
      clear hn
      by_cases hlt : j < M.length
      · rcases row_parts hrow with ⟨_, h0⟩ | ⟨g, cap, cur, hv, hB, hG0, hcap, hcur⟩
        · rw [h0] at hlt; cases hlt
        · injection hv with hv1 hv2 hv3
          subst hv1 hv3
          obtain ⟨p, hp⟩ : ∃ p, M[j]? = some p := ⟨M[j], List.getElem?_eq_getElem hlt⟩
          have hG : wr.heap[g]? = some (.cells cur 42 (0, 0)) := (hbel.block g (lt_of_blk hG0)).trans hG0
          have x0 : wr.cell? ⟨g, j * 6, none⟩ = some (.int .i64 p.k) := (blk_cell hG (j * 6 + 0)).trans (hcur j 0 p hp (by decide))
          have x1 : wr.cell? ⟨g, j * 6 + 1, none⟩ = some (.int .i64 p.a) := (blk_cell hG (j * 6 + 1)).trans (hcur j 1 p hp (by decide))
          have x2 : wr.cell? ⟨g, j * 6 + 2, none⟩ = some (.int .i64 p.b) := (blk_cell hG (j * 6 + 2)).trans (hcur j 2 p hp (by decide))
          have x3 : wr.cell? ⟨g, j * 6 + 3, none⟩ = some (.int .i64 p.u) := (blk_cell hG (j * 6 + 3)).trans (hcur j 3 p hp (by decide))
          have x4 : wr.cell? ⟨g, j * 6 + 4, none⟩ = some (.bool p.id) := (blk_cell hG (j * 6 + 4)).trans (hcur j 4 p hp (by decide))
          have x5 : wr.cell? ⟨g, j * 6 + 5, none⟩ = some (.string p.t) := (blk_cell hG (j * 6 + 5)).trans (hcur j 5 p hp (by decide))
          have HTK : Hid (M.take (j + 1) = M.take j ++ [p]) := Lib.hid (by rw [List.take_add_one, hp]; rfl)
          have HJL : Hid (j ≤ 32768) := Lib.hid (by have := HML.out; omega)
          have hjb : j ≤ 1099511627776 := by have := HJL.out; omega
          have HRW := Lib.hid hrw
          have hbs := hbel.size
          have hj1 : (j : Int) < M.length := by omega
          have hj2 : (0 : Int) ≤ j := by omega
          clear hp hrw hG
          go_wp2_with (at_builtin; go_loud (refine wpList_append_rw rfl _ _ rfl rfl rfl (Rw.alloc (Rw.alloc HRW.out _) _) (Rw.oneP p (alloc_at _ (by simp)) (Nat.le_refl _)) (by have := HJL.out; simp; omega) (by simp; omega) ?_; intro vA w5 hrA hgA; have hbA := Rw.grown (Rw.alloc (Rw.alloc HRW.out _) _) hgA (Nat.le_refl _) (by simp; omega); have HRA := Lib.hid hrA; clear hrA hgA))
          go_roundg (M.length - (j + 1))
          case measure => have := HN.out; omega
          case rel => exact ⟨j + 1, rfl, rfl, by omega, by rw [HTK.out]; exact HRA.out, ((hbel.alloc hbel.size _).alloc (hbel.alloc hbel.size _).size _).trans hbA⟩
      · have HRM : Hid (Rw wr w2.heap.size u6 M) := Lib.hid (by rw [List.take_of_length_le (by omega)] at hrw; exact hrw)
        have hj1 : ¬ (j : Int) < M.length := by omega
        have hb3 := below_more hb2 hbel
        have H2 := Lib.hid hb2.size
        have HBL := Lib.hid hbel.size
        clear hrw hrow
        go_wp2_with fail
        refine (Tokens_at HW.out.1 HW.out.2.1 (by omega) HW.out.2.2.1 HW.out.2.2.2.1 h2 htab hb3).mono ?_
        rintro e w4 ⟨v1, L, rfl, hfa, hrw, hbT⟩
        have hb4 := below_more hb3 hbT
        have HF := Lib.hid hfa
        have HL : Hid (L.length ≤ 32768) := Lib.hid (hfa.few HW.out.1 hsz)
        have HR4 := Lib.hid hrw
        have HM4 := Lib.hid (HRM.out.below hbT)
        have HP : Hid (allAlikeB L M = true) := Lib.hid (by rw [← HM.out]; exact plain8 HW.out.2.2.2.1 HEN.out hfa)
        clear hfa hrw hbT hb3
        go_wp2_with fail
        refine (allAlike_calls HR4.out HM4.out (by have := HL.out; omega) (by have := HML.out; omega)).mono ?_
        rintro e w5 ⟨rfl, hb5⟩
        have hb6 := below_more hb4 hb5
        rw [HP.out]
        have HR5 := Lib.hid (HR4.out.below hb5)
        have HM5 := Lib.hid (HM4.out.below hb5)
        clear hb4 hb5
        go_wp2_with fail
        refine (merged_of HF.out HW.out.2.2.2.1 HR5.out (by have := HW.out.few; omega) rfl).mono ?_
        rintro e w6 ⟨v2, rfl, hrw6, hb7⟩
        have hb8 := below_more hb6 hb7
        have HM6 := Lib.hid (HM5.out.below hb7)
        go_wp2_with fail
        refine (merged_calls HM6.out (by have := HML.out; omega)).mono ?_
        rintro e w7 ⟨v3, rfl, hrw7, hb9⟩
        have hb10 := below_more hb8 hb9
        have hS : Fa2 SamP L (mrgP M) := by rw [← HM.out]; exact plain8b HW.out.2.2.2.1 HF.out
        have hrw6' := hrw6.below hb9
        obtain ⟨C, hC⟩ : ∃ C, mrgP M = C := ⟨_, rfl⟩
        rw [hC] at hS hrw7
        have HS := Lib.hid hS
        have HLC : Hid (L.length = C.length) := Lib.hid hS.len
        have HRW6 := Lib.hid hrw6'
        have HRW7 := Lib.hid hrw7
        clear hS hrw6 hrw6' hrw7 hb6 hb7 hb8 hb9 hC
        obtain ⟨pa, ca, rfl⟩ := own_slice HRW6.out
        obtain ⟨pc, cc, rfl⟩ := own_slice HRW7.out
        have hll : L.length ≤ 32768 := HL.out
        go_wp2_with fail
        go_loopg [61] L.length (fun n i wr => RwL8 w7 L.length n i wr)
        case atStart => exact ⟨0, rfl, rfl, Nat.zero_le _, Below.refl _ _⟩
        case round =>
          obtain ⟨j2, rfl, hn, hj2, hbel2⟩ := hrel
          have HN2 := Lib.hid hn
          clear hn
          by_cases hlt2 : j2 < L.length
          · have hltC : j2 < C.length := by have := HLC.out; omega
            obtain ⟨q, hq⟩ : ∃ q, C[j2]? = some q := ⟨C[j2], List.getElem?_eq_getElem hltC⟩
            obtain ⟨p, hp, hpq⟩ := fa2_get HS.out hq
            rcases HRW6.out.parts with ⟨_, h0⟩ | ⟨g1, cap1, cur1, hv, hB1, hG1, hcap1, hcur1⟩
            · rw [h0] at hlt2; cases hlt2
            rcases HRW7.out.parts with ⟨_, h0⟩ | ⟨g2, cap2, cur2, hv', hB2, hG2, hcap2, hcur2⟩
            · rw [h0] at hltC; cases hltC
            injection hv with hv1 hv2 hv3
            subst hv1 hv3
            injection hv' with hv1 hv2 hv3
            subst hv1 hv3
            have hGa : wr.heap[g1]? = some (.cells cur1 28 (0, 0)) := (hbel2.block g1 (lt_of_blk hG1)).trans hG1
            have hGc : wr.heap[g2]? = some (.cells cur2 28 (0, 0)) := (hbel2.block g2 (lt_of_blk hG2)).trans hG2
            have hj3 : (j2 : Int) < L.length := by omega
            have hj4 : (0 : Int) ≤ j2 := by omega
            have hj5 : (j2 : Int) < C.length := by omega
            have x0 : wr.cell? ⟨g1, j2 * 6, none⟩ = some (.int .i64 p.k) := (blk_cell hGa (j2 * 6 + 0)).trans (hcur1 j2 0 p hp (by decide))
            have x1 : wr.cell? ⟨g1, j2 * 6 + 1, none⟩ = some (.int .i64 p.a) := (blk_cell hGa (j2 * 6 + 1)).trans (hcur1 j2 1 p hp (by decide))
            have x2 : wr.cell? ⟨g1, j2 * 6 + 2, none⟩ = some (.int .i64 p.b) := (blk_cell hGa (j2 * 6 + 2)).trans (hcur1 j2 2 p hp (by decide))
            have z1 : wr.cell? ⟨g2, j2 * 6 + 1, none⟩ = some (.int .i64 q.a) := (blk_cell hGc (j2 * 6 + 1)).trans (hcur2 j2 1 q hq (by decide))
            have z2 : wr.cell? ⟨g2, j2 * 6 + 2, none⟩ = some (.int .i64 q.b) := (blk_cell hGc (j2 * 6 + 2)).trans (hcur2 j2 2 q hq (by decide))
            clear hp hq hcur1 hcur2 hG1 hG2 hGa hGc
            cases k1 : (p.k != 38) with
            | true =>
              have hab := hpq.2 k1
              rw [← hab.1] at z1
              rw [← hab.2] at z2
              clear hpq hab
              go_wp2_with fail
              go_region
              all_goals
                go_wp2_with fail
                go_roundg (L.length - (j2 + 1))
                case measure => have := HN2.out; omega
                case rel => exact ⟨j2 + 1, rfl, rfl, by omega, hbel2.trans (Below.low ((Keep.refl (fun _ => False) _).drew).law hbel2.size)⟩
            | false =>
              clear hpq
              go_wp2_with fail
              go_region
              all_goals
                go_wp2_with fail
                go_roundg (L.length - (j2 + 1))
                case measure => have := HN2.out; omega
                case rel => exact ⟨j2 + 1, rfl, rfl, by omega, hbel2.trans (Below.low ((Keep.refl (fun _ => False) _).drew).law hbel2.size)⟩
          · have hj3 : ¬ (j2 : Int) < L.length := by omega
            have hb11 := below_more hb10 hbel2
            go_wp2_with (go_at_call 10; refine (wakes_at h2 htab hb11).mono ?_; rintro e w9 ⟨rfl, hb12⟩)
            go_ret
            exact ⟨rfl, hb12⟩
end Go.Proofs.YtedckphklebndaaGreatDoor
