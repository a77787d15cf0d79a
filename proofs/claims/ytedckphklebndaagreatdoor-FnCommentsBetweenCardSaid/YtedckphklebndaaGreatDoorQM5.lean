/- The law on a comment between all tokens, walked. Conditions: the tables of unicode/utf8 lie in blocks 0 and 1. -/
import Derived.Test.YtedckphklebndaaGreatDoorQM3a
namespace Go.Proofs.YtedckphklebndaaGreatDoor
open Go Go.RowKit
theorem encs_cons_pos {c : Int} (l : List Int) : 1 ≤ (encs (c :: l)).length := by
  have := wd_pos c
  unfold wd at this
  simp only [encs, List.length_append]
  omega
theorem encs_cm : (encs cm).length = 7 := by decide
theorem bet_size (l : List Int) (ho : (toks l).2 = false) : (encs (bet (ptoks l))).length ≤ 8 * (encs l).length := by
  induction hn : l.length using Nat.strongRecOn generalizing l with
  | _ n ih =>
    by_cases e : (cmtsF l).1 = []
    · rw [ptoks_nil e]; simp [bet, encs]
    · have h2 := endF_lt e
      have hle := cmtsF_le l
      have ho2 := toks_end ho e
      have hI := ih _ (by omega) (endF (cmtsF l).1) ho2 rfl
      rw [ptoks_cons e]
      obtain ⟨u, hu⟩ := endF_suf (cmtsF l).1
      have hl : lets ((nextF (cmtsF l).1).1, (cmtsF l).1, endF (cmtsF l).1) = u := by
        have e2 : ∀ (E m : List Int), u ++ E = m → m.take (m.length - E.length) = u := by rintro E m rfl; simp
        exact e2 _ _ hu
      have hu0 : u ≠ [] := by
        rintro rfl
        rw [List.nil_append] at hu
        rw [hu] at h2
        omega
      have h3 := encs_suf (cmtsF_suf l)
      rw [← hu, encs_append, List.length_append] at h3
      have h4 : 1 ≤ (encs u).length := by
        cases u with
        | nil => exact absurd rfl hu0
        | cons c u => exact encs_cons_pos u
      have hb : ∀ ts t, bet (t :: ts) = lets t ++ (cm ++ bet ts) := fun ts t => by simp [bet]
      rw [hb, hl, encs_append, encs_append, List.length_append, List.length_append, encs_cm]
      omega
theorem bet_take (ts : List (Tok × List Int × List Int)) (j : Nat) : (encs (bet (ts.take j))).length ≤ (encs (bet ts)).length := by
  have e : bet ts = bet (ts.take j) ++ bet (ts.drop j) := by
    unfold bet
    rw [← List.flatMap_append, List.take_append_drop]
  rw [e, encs_append, List.length_append]
  omega
def TokA (t : Tok × List Int × List Int) : Prop := (toks (lets t)).2 = false ∧ view (lets t) = [ab t.1]
theorem tokA_of {s : ByteArray} {l : List Int} {t : Tok × List Int × List Int} {p : PT} (hS : Sfx s l) (ho : (toks l).2 = false) (h : t ∈ ptoks l) (hp : PR s t p) {raw : ByteArray} (hr : s.extract (ps s t.2.1) (ps s t.2.2) = raw)
    (h2 : (p.k == 2) = false) (h92 : (raw.toList == [92]) = false) (hx : ¬ ((p.k == 27) = true ∧ isUrl p.t.data.toList = true)) : TokA t ∧ Wt raw (lets t) := by
  have hW := (tok_wt hS h ho).1
  rw [hr] at hW
  have hk := hp.1
  have hA := tok_alone h ho (lets_eq h ho) (by rw [← hk]; simpa using h2) (not_92 hW h92) (by
    rintro ⟨e1, e2⟩
    refine hx ⟨by rw [hk, e1]; rfl, ?_⟩
    rw [hp.2.2.2.2.2 (by rw [e1]; rfl)]; exact e2)
  exact ⟨⟨hA.1, view_one hA.1 hA.2⟩, hW⟩
theorem wt_cm : Wt ⟨#[47, 42, 32, 120, 32, 42, 47]⟩ cm := wt_ascii [47, 42, 32, 120, 32, 42, 47] _ (by decide) (rn_ascii (by decide))
/-- The law, in plain lists. -/
theorem plain5 {s z : ByteArray} {l : List Int} {L L3 : List PT} (h : Fa2 (PR s) (ptoks l) L) (hA : ∀ t ∈ ptoks l, TokA t) (h3 : Fa2 (PR z) (ptoks (bet (ptoks l))) L3) : allAlikeB L3 L = true := by
  have hv := between (ts := ptoks l) hA
  apply allAlike_of
  rw [PR.view h3 hv.1, hv.2, mrg_idem _ _ _ _ (fun q => q), PR.abs h]
/-- The loop. -/
def BL (w0 : World) (ts : List (Tok × List Int × List Int)) (m : Nat) (n : Nat) (a i : Value) (w : World) : Prop :=
  ∃ (j : Nat) (A : ByteArray), a = .string A ∧ i = .int .i64 (j : Nat) ∧ n = m - j ∧ j ≤ m ∧ Wt A (bet (ts.take j)) ∧ (∀ t ∈ ts.take j, TokA t) ∧ Below w0.heap.size w0 w
theorem BL.push {w0 w : World} {ts : List (Tok × List Int × List Int)} {m j : Nat} {A raw : ByteArray} {t : Tok × List Int × List Int} (hj : j < m) (ht : ts[j]? = some t) (hA : Wt A (bet (ts.take j))) (hT : ∀ t ∈ ts.take j, TokA t) (h : TokA t ∧ Wt raw (lets t)) (hb : Below w0.heap.size w0 w) :
    BL w0 ts m (m - (j + 1)) (.string (A ++ (raw ++ ⟨#[47, 42, 32, 120, 32, 42, 47]⟩))) (.int .i64 ((j : Int) + 1)) w := by
  have e : ts.take (j + 1) = ts.take j ++ [t] := by rw [List.take_add_one, ht]; rfl
  refine ⟨j + 1, _, rfl, rfl, rfl, by omega, ?_, ?_, hb⟩
  · rw [e, bet_snoc]
    exact wt_app hA (wt_app h.2 wt_cm)
  · rw [e]
    intro x hx
    rcases List.mem_append.1 hx with hx | hx
    · exact hT x hx
    · obtain rfl := List.mem_singleton.1 hx; exact h.1
set_option maxRecDepth 100000 in
set_option maxHeartbeats 8000000 in
theorem law5 {w : World} (s : ByteArray) (h2 : 2 ≤ w.heap.size) (htab : Lib.Utf8Tabs 0 1 w) : Calls Tryz.prog 5 #[.string s] w (LawP w) := by
  by_cases hbig : (s.size : Int) > 2147483647
  · go_enter Tryz.func5, Tryz.ntmps5
    go_wp2_with fail
    go_ret
    exact ⟨rfl, Below.refl _ _⟩
  go_enter Tryz.func5, Tryz.ntmps5
  go_wp2_with fail
  refine (whole_calls s (by omega) _).mono ?_
  rintro e w1 ⟨b, rfl, hb1, hK1⟩
  have hb := hK1.law
  cases b with
  | false =>
    clear hb1
    go_wp2_with (go_at_call 10; refine (wakes_at h2 htab hb).mono ?_; rintro e w2 ⟨rfl, hb2⟩)
    go_ret
    exact ⟨rfl, hb2⟩
  | true =>
    obtain ⟨l, hW⟩ := hb1 rfl
    have hsz := hW.2.2.2.2
    have HW := Lib.hid hW
    have HB : Hid ((encs (bet (ptoks l))).length ≤ 262144) := Lib.hid (by
      have h3 := bet_size l hW.2.2.2.1
      have h4 := hW.1.fits
      omega)
    clear hb1 hW hK1
    go_wp2_with fail
    refine (Tokens_at HW.out.1 HW.out.2.1 (by omega) HW.out.2.2.1 HW.out.2.2.2.1 h2 htab hb).mono ?_
    rintro e w2 ⟨v1, L, rfl, hfa, hrw, hbT⟩
    have hb2 := below_more hb hbT
    have HF := Lib.hid hfa
    have HL : Hid (L.length ≤ 32768) := Lib.hid (hfa.few HW.out.1 hsz)
    go_wp2_with fail
    refine (merged_of hfa HW.out.2.2.2.1 hrw (by have := HW.out.few; omega) rfl).mono ?_
    rintro e w3 ⟨v2, rfl, hrw2, hbM⟩
    have hb3 := below_more hb2 hbM
    have HR := Lib.hid hrw2
    clear hfa hrw hrw2 hbT hbM hb2 hb hbig
    have hll := HL.out
    obtain ⟨p9, cp9, rfl⟩ := own_slice HR.out
    go_wp2_with fail
    go_loopg [4, 19] L.length (fun n a i wr => BL w3 (ptoks l) L.length n a i wr)
    case atStart => exact ⟨0, ⟨#[]⟩, rfl, rfl, rfl, Nat.zero_le _, ⟨rfl, RnAll.nil⟩, (fun _ h => by cases h), Below.refl _ _⟩
    case round =>
      obtain ⟨j, A, rfl, rfl, hn, hj, hWA, hTA, hbel⟩ := hrel
      have HN := Lib.hid hn
      have HWA := Lib.hid hWA
      have HTA := Lib.hid hTA
      have hAz : A.size ≤ 262144 := by
        have h3 := bet_take (ptoks l) j
        have h4 := HB.out
        rw [hWA.size]; omega
      clear hn hWA hTA
      have hb4 : Below w.heap.size w wr := below_more hb3 hbel
      by_cases hlt : j < L.length
      · rcases HR.out.parts with ⟨_, h0⟩ | ⟨g, cap, cur, hv, hB, hG0, hcap, hcur⟩
        · rw [h0] at hlt; cases hlt
        injection hv with hv1 hv2 hv3
        subst hv1 hv3
        obtain ⟨p, hp⟩ : ∃ p, L[j]? = some p := ⟨L[j], List.getElem?_eq_getElem hlt⟩
        obtain ⟨t, ht, hpr⟩ := HF.out.get hp
        have hmem := List.mem_of_getElem? ht
        have hG : wr.heap[g]? = some (.cells cur 28 (0, 0)) := (hbel.block g (lt_of_blk hG0)).trans hG0
        obtain ⟨pa, hpa⟩ : ∃ x, x = ps s t.2.1 := ⟨_, rfl⟩
        obtain ⟨pe, hpe⟩ : ∃ x, x = ps s t.2.2 := ⟨_, rfl⟩
        obtain ⟨raw, hraw⟩ : ∃ x, s.extract pa pe = x := ⟨_, rfl⟩
        have ea : p.a = (pa : Nat) := by rw [hpr.2.1, hpa]
        have eb : p.b = (pe : Nat) := by rw [hpr.2.2.1, hpe]
        have hle : pa ≤ pe := by rw [hpa, hpe]; exact (tok_wt HW.out.1 hmem HW.out.2.2.2.1).2
        have hpes : pe ≤ s.size := by rw [hpe]; exact ps_le _ _
        have x0 : wr.cell? ⟨g, j * 6, none⟩ = some (.int .i64 p.k) := (blk_cell hG (j * 6 + 0)).trans (hcur j 0 p hp (by decide))
        have x1 : wr.cell? ⟨g, j * 6 + 1, none⟩ = some (.int .i64 (pa : Nat)) := ((blk_cell hG (j * 6 + 1)).trans (hcur j 1 p hp (by decide))).trans (congrArg (fun z => some (Value.int .i64 z)) ea)
        have x2 : wr.cell? ⟨g, j * 6 + 2, none⟩ = some (.int .i64 (pe : Nat)) := ((blk_cell hG (j * 6 + 2)).trans (hcur j 2 p hp (by decide))).trans (congrArg (fun z => some (Value.int .i64 z)) eb)
        have x3 : wr.cell? ⟨g, j * 6 + 3, none⟩ = some (.int .i64 p.u) := (blk_cell hG (j * 6 + 3)).trans (hcur j 3 p hp (by decide))
        have x4 : wr.cell? ⟨g, j * 6 + 4, none⟩ = some (.bool p.id) := (blk_cell hG (j * 6 + 4)).trans (hcur j 4 p hp (by decide))
        have x5 : wr.cell? ⟨g, j * 6 + 5, none⟩ = some (.string p.t) := (blk_cell hG (j * 6 + 5)).trans (hcur j 5 p hp (by decide))
        have hj1 : (j : Int) < L.length := by omega
        have hj2 : (0 : Int) ≤ j := by omega
        have n1 : (pa : Int) ≤ pe := by omega
        have n2 : (pe : Int) ≤ s.size := by omega
        have n3 : (0 : Int) ≤ pa := by omega
        have hrz : raw.size ≤ 32768 := by rw [← hraw, ByteArray.size_extract]; omega
        have HPR := Lib.hid hpr
        have HT := Lib.hid ht
        have HMEM := Lib.hid hmem
        have HRAW : Hid (s.extract (ps s t.2.1) (ps s t.2.2) = raw) := Lib.hid (by rw [← hpa, ← hpe]; exact hraw)
        clear hp ht hpr hmem hpa hpe ea eb hle hpes hG
        go_upto_region 10 with (fail)
        have hX : (wr.alloc (.cells #[.int .i64 p.k, .int .i64 (pa : Nat), .int .i64 (pe : Nat), .int .i64 p.u, .bool p.id, .string p.t] 28)).heap[wr.heap.size]? = some (.cells #[.int .i64 p.k, .int .i64 (pa : Nat), .int .i64 (pe : Nat), .int .i64 p.u, .bool p.id, .string p.t] 28 (0, 0)) := heap_alloc_new _ _
        have hbX : Below w3.heap.size w3 (wr.alloc (.cells #[.int .i64 p.k, .int .i64 (pa : Nat), .int .i64 (pe : Nat), .int .i64 p.u, .bool p.id, .string p.t] 28)) := hbel.alloc hbel.size _
        obtain ⟨wb, hwb⟩ : ∃ x, wr.alloc (.cells #[.int .i64 p.k, .int .i64 (pa : Nat), .int .i64 (pe : Nat), .int .i64 p.u, .bool p.id, .string p.t] 28) = x := ⟨_, rfl⟩
        obtain ⟨X, hXe⟩ : ∃ x, wr.heap.size = x := ⟨_, rfl⟩
        rw [hwb] at hX hbX ⊢
        rw [hXe] at hX ⊢
        have hb5 : Below w.heap.size w wb := below_more hb3 hbX
        clear hwb hXe hbel x0 x1 x2 x3 x4 x5 hb4
        have y0 : wb.cell? ⟨X, 0, none⟩ = some (.int .i64 p.k) := (blk_cell hX 0).trans rfl
        have y1 : wb.cell? ⟨X, 1, none⟩ = some (.int .i64 (pa : Nat)) := (blk_cell hX 1).trans rfl
        have y2 : wb.cell? ⟨X, 2, none⟩ = some (.int .i64 (pe : Nat)) := (blk_cell hX 2).trans rfl
        have y5 : wb.cell? ⟨X, 5, none⟩ = some (.string p.t) := (blk_cell hX 5).trans rfl
        cases k2 : (p.k == 2) with
        | true =>
          go_wp2_with (go_at_call 10; refine (wakes_at h2 htab hb5).mono ?_; rintro e w6 ⟨rfl, hb6⟩)
          go_ret
          exact ⟨rfl, hb6⟩
        | false =>
          by_cases hu : (p.k == 27) = true ∧ isUrl p.t.data.toList = true
          · obtain ⟨k27, ku⟩ := hu
            go_wp2_with (first | (go_at_call 14; refine (IsURL_calls _ _).mono ?_; rintro e w' ⟨rfl, rfl⟩; rw [ku]) | (go_at_call 10; refine (wakes_at h2 htab hb5).mono ?_; rintro e w6 ⟨rfl, hb6⟩))
            go_ret
            exact ⟨rfl, hb6⟩
          · have hcs : (p.k == 27) = false ∨ ((p.k == 27) = true ∧ isUrl p.t.data.toList = false) := by
              cases q : (p.k == 27) with
              | false => exact .inl rfl
              | true =>
                cases q2 : isUrl p.t.data.toList with
                | false => exact .inr ⟨rfl, rfl⟩
                | true => exact absurd ⟨q, q2⟩ hu
            cases k92 : (raw.toList == [92]) with
            | true =>
              clear hu
              rcases hcs with k27 | ⟨k27, ku⟩
              all_goals
                go_wp2_with (first | (go_at_call 14; refine (IsURL_calls _ _).mono ?_; rintro e w' ⟨rfl, rfl⟩; rw [ku]) | (go_at_call 10; refine (wakes_at h2 htab hb5).mono ?_; rintro e w6 ⟨rfl, hb6⟩))
                go_ret
                exact ⟨rfl, hb6⟩
            | false =>
              have HPL := Lib.hid (tokA_of HW.out.1 HW.out.2.2.2.1 HMEM.out HPR.out HRAW.out k2 k92 hu)
              clear hu
              rcases hcs with k27 | ⟨k27, ku⟩
              all_goals
                go_wp2_with (go_at_call 14; refine (IsURL_calls _ _).mono ?_; rintro e w' ⟨rfl, rfl⟩; rw [ku])
                go_roundg (L.length - (j + 1))
                case measure => have := HN.out; omega
                case rel => exact BL.push hlt HT.out HWA.out HTA.out HPL.out hbX
      · have HTS : Hid ((ptoks l).take j = ptoks l) := Lib.hid (List.take_of_length_le (by have := HF.out.len; omega))
        have hj1 : ¬ (j : Int) < L.length := by omega
        cases km : hasMarkB A with
        | true =>
          go_wp2_with (go_at_call 13; refine (HasMark_calls _ _).mono ?_; rintro e w' ⟨rfl, rfl⟩; rw [km])
          go_ret
          exact ⟨rfl, hb4⟩
        | false =>
          have hWA2 := HWA.out
          have hTA2 := HTA.out
          rw [HTS.out] at hWA2 hTA2
          have hx := Tokens_at (w := w) (w1 := wr) hWA2.sfx hWA2.ps (by omega) (mark_hd hWA2 km) (between hTA2).1 h2 htab hb4
          have HWA3 := Lib.hid hWA2
          have HTA3 := Lib.hid hTA2
          clear hWA2 hTA2
          go_wp2_with (first
            | (go_at_call 13; refine (HasMark_calls _ _).mono ?_; rintro e w' ⟨rfl, rfl⟩; rw [km])
            | (go_at_call 12; refine hx.mono ?_; rintro e w5 ⟨v5, L3, rfl, hfa, hrw, hbT⟩; have hb5 := below_more hb4 hbT; have HP : Hid (allAlikeB L3 L = true) := Lib.hid (plain5 HF.out HTA3.out hfa); have HR5 := Lib.hid hrw; have HL3 : Hid (L3.length ≤ 524288) := Lib.hid (hfa.few HWA3.out.sfx (by omega)); have HR6 := Lib.hid ((HR.out.below hbel).below hbT); clear hfa hrw hbT)
            | (go_at_call 18; refine (allAlike_calls HR5.out HR6.out (by have := HL3.out; omega) (by have := HL.out; omega)).mono ?_; rintro e w6 ⟨rfl, hb8⟩; have hb9 := below_more hb5 hb8; rw [HP.out])
            | (go_at_call 10; refine (wakes_at h2 htab hb9).mono ?_; rintro e w8 ⟨rfl, hb10⟩))
          go_ret
          exact ⟨rfl, hb10⟩
end Go.Proofs.YtedckphklebndaaGreatDoor
