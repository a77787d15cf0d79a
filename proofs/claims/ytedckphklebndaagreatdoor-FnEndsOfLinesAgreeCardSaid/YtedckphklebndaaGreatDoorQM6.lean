/- The law on the ends of lines, walked. Conditions: the tables of unicode/utf8 lie in blocks 0 and 1; the ends lie in memory. -/
import Derived.Test.YtedckphklebndaaGreatDoorQM2
import Derived.Deep.QuietTactic
import Derived.BigQuiet
import Derived.Test.YtedckphklebndaaGreatDoorQL4
namespace Go.Proofs.YtedckphklebndaaGreatDoor
open Go Go.RowKit
theorem mem_byte {l : List Int} {c : Int} (h : c ∈ l) (h0 : 0 ≤ c) (h1 : c < 128) : c.toNat.toUInt8 ∈ encs l := by
  induction l with
  | nil => cases h
  | cons d l ih =>
    simp only [encs, List.mem_append]
    rcases List.mem_cons.1 h with rfl | h
    · left; rw [enc_one h0 h1]; exact List.mem_cons_self ..
    · right; exact ih h
theorem no_ends {s : ByteArray} {l : List Int} (hW : Wt s l) (h : ∀ i, i < s.size → (bt s i == 13) = false ∧ (bt s i == 12) = false) : ∀ c ∈ l, c ≠ 13 ∧ c ≠ 12 := by
  have key : ∀ c ∈ l, ∀ n : Int, 0 ≤ n → n < 128 → (∀ i, i < s.size → (bt s i == n) = false) → c ≠ n := by
    rintro c hc n h0 h1 hb rfl
    have hm := mem_byte hc h0 h1
    rw [← hW.by_] at hm
    obtain ⟨i, hi⟩ := List.getElem?_of_mem hm
    have hlt : i < s.size := by
      have := (List.getElem?_eq_some_iff.1 hi).1
      rw [Lib.size_eq]; exact this
    have e := bt_list hi
    have := hb i hlt
    rw [e, toNat_u8 c h0 (by omega)] at this
    simp at this
  intro c hc
  exact ⟨key c hc 13 (by decide) (by decide) (fun i hi => (h i hi).1), key c hc 12 (by decide) (by decide) (fun i hi => (h i hi).2)⟩
theorem Ln.bom {a b : List Int} (h : Ln a b) (ha : hd a ≠ 65279) : hd b ≠ 65279 := by
  cases h with
  | nil => exact ha
  | cons _ _ => exact ha
  | lf _ => exact (show (10 : Int) ≠ 65279 by decide)
  | ff _ => exact (show (12 : Int) ≠ 65279 by decide)
  | cr _ => exact (show (13 : Int) ≠ 65279 by decide)
/-- The same kind, flag and text. -/
def SamK (p q : PT) : Prop := p.k = q.k ∧ p.id = q.id ∧ (hasT p.k = true → p.t.toList = q.t.toList)
theorem samk_of {a b : List PT} (h : (a.map abP).map dropU = (b.map abP).map dropU) : Fa2 SamK a b := by
  induction a generalizing b with
  | nil =>
    cases b with
    | nil => exact .nil
    | cons q b => cases h
  | cons p a ih =>
    cases b with
    | nil => cases h
    | cons q b =>
      simp only [List.map_cons, List.cons.injEq] at h
      refine .cons ?_ (ih h.2)
      have h1 := h.1
      unfold abP dropU at h1
      injection h1 with e1 e2 e3
      have d1 : p.k = q.k := e1
      have d3 : (if hasT p.k = true then p.t.data.toList else []) = (if hasT q.k = true then q.t.data.toList else []) := e3
      refine ⟨d1, e2, fun hk => ?_⟩
      rw [← d1, if_pos hk, if_pos hk] at d3
      rw [ByteArray.toList_eq, ByteArray.toList_eq, d3]
/-- The law, in plain lists. -/
theorem plain6 {s t : ByteArray} {l m : List Int} {L L2 : List PT} (ho : (toks l).2 = false) (hl : Ln l m) (h : Fa2 (PR s) (ptoks l) L) (h2 : Fa2 (PR t) (ptoks m) L2) : (toks m).2 = false ∧ Fa2 SamK L L2 := by
  have ho2 : (toks m).2 = false := hl.toks.2.symm.trans ho
  refine ⟨ho2, samk_of ?_⟩
  rw [PR.view h ho, PR.view h2 ho2]
  exact hl.view
theorem fa2_get6 {α β : Type} {R : α → β → Prop} {a : List α} {b : List β} (h : Fa2 R a b) {j : Nat} {y : β} (hj : b[j]? = some y) : ∃ x, a[j]? = some x ∧ R x y := by
  induction h generalizing j with
  | nil => cases hj
  | cons h _ ih =>
    cases j with
    | zero => simp only [List.getElem?_cons_zero, Option.some.injEq] at hj; subst hj; exact ⟨_, rfl, h⟩
    | succ j => simp only [List.getElem?_cons_succ] at hj ⊢; exact ih hj
def Ends (w : World) (p : Option Addr) (n : Nat) : Prop := n = 0 ∨ ∃ b o, p = some ⟨b, o, none⟩ ∧ b < w.heap.size ∧ ∀ j, j < n → ∃ e : Int, w.cell? ⟨b, o + j, none⟩ = some (.int .i64 e)
theorem Ends.endsAt {w w1 : World} {p : Option Addr} {n : Nat} (h : Ends w p n) (hb : Below w.heap.size w w1) (hp : ∀ b o, p = some ⟨b, o, none⟩ → ∀ j e, j < n → w.cell? ⟨b, o + j, none⟩ = some (.int .i64 e) → 0 ≤ e) : EndsAt w1 p n := by
  rcases h with h | ⟨b, o, hpe, hlt, hc⟩
  · exact .inl h
  · refine .inr ⟨b, o, hpe, fun j hj => ?_⟩
    obtain ⟨e, he⟩ := hc j hj
    refine ⟨e, hp b o hpe j e hj he, ?_⟩
    rw [World.cell?_of_block (w := w) (hb.block b hlt)]
    exact he
theorem EndsAt.below {w w1 : World} {p : Option Addr} {n : Nat} (h : EndsAt w p n) (hb : Below w.heap.size w w1) : EndsAt w1 p n := by
  rcases h with h | ⟨b, o, hpe, hc⟩
  · exact .inl h
  · refine .inr ⟨b, o, hpe, fun j hj => ?_⟩
    obtain ⟨e, h0, he⟩ := hc j hj
    exact ⟨e, h0, (Keep.of_below hb (fun _ => False)).cell he (fun x => x)⟩
/-- A loop that turns nothing. -/
def NL6 (w0 : World) (m : Nat) (P : Nat → Prop) (n : Nat) (i : Value) (w : World) : Prop := ∃ j : Nat, i = .int .i64 (j : Nat) ∧ n = m - j ∧ j ≤ m ∧ (∀ k, k < j → P k) ∧ w0 = w
def RwL6 (w0 : World) (m : Nat) (n : Nat) (i : Value) (w : World) : Prop := ∃ j : Nat, i = .int .i64 (j : Nat) ∧ n = m - j ∧ j ≤ m ∧ Below w0.heap.size w0 w
set_option maxRecDepth 100000 in
set_option maxHeartbeats 16000000 in
theorem law6 {w : World} (s : ByteArray) (p : Option Addr) (m c : Nat) (hE : Ends w p m) (h2 : 2 ≤ w.heap.size) (htab : Lib.Utf8Tabs 0 1 w) : Calls Tryz.prog 6 #[.string s, .slice p m c] w (LawP w) := by
  by_cases hbig : (s.size : Int) > 2147483647
  · go_enter Tryz.func6, Tryz.ntmps6
    go_wp2_with fail
    go_ret
    exact ⟨rfl, Below.refl _ _⟩
  by_cases hbig2 : (m : Int) > 2147483647
  · go_enter Tryz.func6, Tryz.ntmps6
    go_wp2_with fail
    go_ret
    exact ⟨rfl, Below.refl _ _⟩
  go_enter Tryz.func6, Tryz.ntmps6
  go_wp2_with fail
  refine (whole_calls s (by omega) _).mono ?_
  rintro e w1 ⟨b, rfl, hb1, hK1⟩
  have hb := hK1.law
  cases b with
  | false =>
    clear hb1
    go_wp2_with (go_at_call 10; refine (wakes_at h2 htab hb).mono ?_; rintro e w2 ⟨rfl, hb2⟩)
    go_ret
    exact ⟨rfl, hb2⟩
  | true =>
    obtain ⟨l, hW⟩ := hb1 rfl
    have hsz := hW.2.2.2.2
    have HW := Lib.hid hW
    have HE := Lib.hid hE
    clear hb1 hW hK1 hE
    go_wp2_with fail
    go_loopg [30] s.size (fun n i wr => NL6 w1 s.size (fun k => (bt s k == 13) = false ∧ (bt s k == 12) = false) n i wr)
    case atStart => exact ⟨0, rfl, rfl, Nat.zero_le _, (fun k h => by omega), rfl⟩
    case round =>
      obtain ⟨j, rfl, hn, hj, hP, rfl⟩ := hrel
      have HN := Lib.hid hn
      have HP := Lib.hid hP
      clear hn hP
      by_cases hlt : j < s.size
      · have i1 := bt_at s j
        have r1 := bt_range s j
        have hj1 : (j : Int) < s.size := by omega
        have hj2 : (0 : Int) ≤ j := by omega
        cases k13 : (bt s j == 13) with
        | true =>
          go_wp2_with (go_at_call 10; refine (wakes_at h2 htab hb).mono ?_; rintro e w2 ⟨rfl, hb2⟩)
          go_ret
          exact ⟨rfl, hb2⟩
        | false =>
          cases k12 : (bt s j == 12) with
          | true =>
            go_wp2_with (go_at_call 10; refine (wakes_at h2 htab hb).mono ?_; rintro e w2 ⟨rfl, hb2⟩)
            go_ret
            exact ⟨rfl, hb2⟩
          | false =>
            have HQ := Lib.hid (And.intro k13 k12)
            go_wp2_with fail
            go_roundg (s.size - (j + 1))
            case measure => have := HN.out; omega
            case rel =>
              refine ⟨j + 1, rfl, rfl, by omega, fun k hk => ?_, rfl⟩
              by_cases e : k = j
              · subst e; exact HQ.out
              · exact HP.out k (by omega)
      · have HNE : Hid (∀ c ∈ l, c ≠ 13 ∧ c ≠ 12) := Lib.hid (no_ends HW.out.wt (fun i hi => HP.out i (by omega)))
        have hj1 : ¬ (j : Int) < s.size := by omega
        clear HP
        go_wp2_with fail
        go_loopg [47] m (fun n i wr => NL6 w1 m (fun k => ∀ b o e, p = some ⟨b, o, none⟩ → w.cell? ⟨b, o + k, none⟩ = some (.int .i64 e) → 0 ≤ e) n i wr)
        case atStart => exact ⟨0, rfl, rfl, Nat.zero_le _, (fun k h => by omega), rfl⟩
        case round =>
          obtain ⟨j2, rfl, hn2, hjm, hP2, rfl⟩ := hrel
          have HN2 := Lib.hid hn2
          have HP2 := Lib.hid hP2
          clear hn2 hP2
          by_cases hlt2 : j2 < m
          · rcases HE.out with h0 | ⟨b, o, rfl, hbl, hc⟩
            · rw [h0] at hlt2; cases hlt2
            obtain ⟨e0, he0⟩ := hc j2 hlt2
            have x0 : w1.cell? ⟨b, o + j2, none⟩ = some (.int .i64 e0) := by
              rw [World.cell?_of_block (w := w) (hb.block b hbl)]; exact he0
            have HX := Lib.hid he0
            have hj3 : (j2 : Int) < m := by omega
            have hj4 : (0 : Int) ≤ j2 := by omega
            clear hc he0
            by_cases hneg : e0 < 0
            · go_wp2_with (go_at_call 10; refine (wakes_at h2 htab hb).mono ?_; rintro e w2 ⟨rfl, hb2⟩)
              go_ret
              exact ⟨rfl, hb2⟩
            · have HNG := Lib.hid hneg
              go_wp2_with fail
              go_roundg (m - (j2 + 1))
              case measure => have := HN2.out; omega
              case rel =>
                refine ⟨j2 + 1, rfl, rfl, by omega, fun k hk => ?_, rfl⟩
                by_cases e : k = j2
                · subst e
                  intro b' o' e' hpe hce
                  injection hpe with hpe
                  injection hpe with h1 h2
                  subst h1 h2
                  rw [HX.out] at hce
                  injection hce with hce
                  injection hce with _ hce
                  have := HNG.out
                  omega
                · exact HP2.out k (by omega)
          · have HEA : Hid (EndsAt w1 p m) := Lib.hid (HE.out.endsAt hb (fun b o hpe j e hj hce => HP2.out j (by omega) b o e hpe hce))
            have hj5 : ¬ (j2 : Int) < m := by omega
            clear HP2
            go_wp2_with fail
            refine (Tokens_at HW.out.1 HW.out.2.1 (by omega) HW.out.2.2.1 HW.out.2.2.2.1 h2 htab hb).mono ?_
            rintro e w2 ⟨v1, L, rfl, hfa, hrw, hbT⟩
            have hb2 := below_more hb hbT
            have HF := Lib.hid hfa
            have HL : Hid (L.length ≤ 32768) := Lib.hid (hfa.few HW.out.1 hsz)
            go_wp2_with fail
            refine (merged_of hfa HW.out.2.2.2.1 hrw (by have := HW.out.few; omega) rfl).mono ?_
            rintro e w3 ⟨v2, rfl, hrw2, hbM⟩
            have hb3 := below_more hb2 hbM
            have HR := Lib.hid hrw2
            have HEA3 : Hid (EndsAt w3 p m) := Lib.hid (HEA.out.below (below_more hbT hbM))
            clear hfa hrw hrw2 hbT hbM hb2
            go_wp2_with fail
            refine (Lines_calls HW.out.wt (by omega) HNE.out HEA3.out).mono ?_
            rintro e w3' ⟨R, lb, rfl, hWR, hLn, hRz, hw3⟩
            rw [hw3]
            clear hw3
            have HWR := Lib.hid hWR
            have HLN := Lib.hid hLn
            have hRz2 : R.size ≤ 65536 := by omega
            have HO2 : Hid ((toks lb).2 = false) := Lib.hid (hLn.toks.2.symm.trans HW.out.2.2.2.1)
            clear hWR hRz
            go_wp2_with fail
            refine (Tokens_at HWR.out.sfx HWR.out.ps (by omega) (Ln.bom hLn HW.out.2.2.1) HO2.out h2 htab hb3).mono ?_
            rintro e w4 ⟨v3, L2, rfl, hfa, hrw, hbT⟩
            have hb4 := below_more hb3 hbT
            have HF2 := Lib.hid hfa
            have HL2 : Hid (L2.length ≤ 65536) := Lib.hid (hfa.few HWR.out.sfx hRz2)
            have HR4 := Lib.hid (HR.out.below hbT)
            go_wp2_with fail
            refine (merged_of hfa HO2.out hrw (by have := HL2.out; rw [hfa.len]; omega) rfl).mono ?_
            rintro e w5 ⟨v4, rfl, hrw2, hbM⟩
            have hb5 := below_more hb4 hbM
            have HR5 := Lib.hid (HR4.out.below hbM)
            have HQ5 := Lib.hid hrw2
            have HS : Hid (Fa2 SamK L L2) := Lib.hid (plain6 HW.out.2.2.2.1 HLN.out HF.out HF2.out).2
            have HLE : Hid (L.length = L2.length) := Lib.hid HS.out.len
            clear hfa hrw hrw2 hbT hbM hb4 hb3 hb hLn
            obtain ⟨pa, ca, rfl⟩ := own_slice HR5.out
            obtain ⟨pc, cc, rfl⟩ := own_slice HQ5.out
            have hll : L.length ≤ 32768 := HL.out
            have hne : ((L.length : Int) != L2.length) = false := by rw [HLE.out]; simp
            go_wp2_with fail
            go_loopg [70] L.length (fun n i wr => RwL6 w5 L.length n i wr)
            case atStart => exact ⟨0, rfl, rfl, Nat.zero_le _, Below.refl _ _⟩
            case round =>
              obtain ⟨j3, rfl, hn3, hj3, hbel⟩ := hrel
              have HN3 := Lib.hid hn3
              clear hn3
              by_cases hlt3 : j3 < L.length
              · have hltC : j3 < L2.length := by have := HLE.out; omega
                obtain ⟨q, hq⟩ : ∃ q, L2[j3]? = some q := ⟨L2[j3], List.getElem?_eq_getElem hltC⟩
                obtain ⟨x, hx, hpq⟩ := fa2_get6 HS.out hq
                rcases HR5.out.parts with ⟨_, h0⟩ | ⟨g1, cap1, cur1, hv, hB1, hG1, hcap1, hcur1⟩
                · rw [h0] at hlt3; cases hlt3
                rcases HQ5.out.parts with ⟨_, h0⟩ | ⟨g2, cap2, cur2, hv', hB2, hG2, hcap2, hcur2⟩
                · rw [h0] at hltC; cases hltC
                injection hv with hv1 hv2 hv3
                subst hv1 hv3
                injection hv' with hv1 hv2 hv3
                subst hv1 hv3
                have hGa : wr.heap[g1]? = some (.cells cur1 28 (0, 0)) := (hbel.block g1 (lt_of_blk hG1)).trans hG1
                have hGc : wr.heap[g2]? = some (.cells cur2 28 (0, 0)) := (hbel.block g2 (lt_of_blk hG2)).trans hG2
                have hj6 : (j3 : Int) < L.length := by omega
                have hj7 : (0 : Int) ≤ j3 := by omega
                have hj8 : (j3 : Int) < L2.length := by omega
                have x0 : wr.cell? ⟨g1, j3 * 6, none⟩ = some (.int .i64 x.k) := (blk_cell hGa (j3 * 6 + 0)).trans (hcur1 j3 0 x hx (by decide))
                have x4 : wr.cell? ⟨g1, j3 * 6 + 4, none⟩ = some (.bool x.id) := (blk_cell hGa (j3 * 6 + 4)).trans (hcur1 j3 4 x hx (by decide))
                have x5 : wr.cell? ⟨g1, j3 * 6 + 5, none⟩ = some (.string x.t) := (blk_cell hGa (j3 * 6 + 5)).trans (hcur1 j3 5 x hx (by decide))
                have z0 : wr.cell? ⟨g2, j3 * 6, none⟩ = some (.int .i64 x.k) := ((blk_cell hGc (j3 * 6 + 0)).trans (hcur2 j3 0 q hq (by decide))).trans (congrArg (fun z => some (Value.int .i64 z)) hpq.1.symm)
                have z4 : wr.cell? ⟨g2, j3 * 6 + 4, none⟩ = some (.bool x.id) := ((blk_cell hGc (j3 * 6 + 4)).trans (hcur2 j3 4 q hq (by decide))).trans (congrArg (fun z => some (Value.bool z)) hpq.2.1.symm)
                have z5 : wr.cell? ⟨g2, j3 * 6 + 5, none⟩ = some (.string q.t) := (blk_cell hGc (j3 * 6 + 5)).trans (hcur2 j3 5 q hq (by decide))
                have HPQ := Lib.hid hpq
                clear hq hx hpq hcur1 hcur2 hG1 hG2 hGa hGc
                have hrest : hasT x.k = false ∨ (hasT x.k = true ∧ (x.t.toList == q.t.toList) = true) := by
                  cases e : hasT x.k with
                  | false => exact .inl rfl
                  | true => exact .inr ⟨rfl, by rw [HPQ.out.2.2 e]; simp⟩
                rcases hrest with kT | ⟨kT, kE⟩
                all_goals
                  go_wp2_with fail
                  go_quiet ((go_at_call 20; exact Calls.quiet_of_same ((hasText_calls _ _).mono fun e w' ⟨a, b⟩ => ⟨a.trans (congrArg (fun z => Ending.returned (Value.bool z)) kT), b.symm⟩)))
                  all_goals
                    go_wp2_with fail
                    go_roundg (L.length - (j3 + 1))
                    case measure => have := HN3.out; omega
                    case rel => exact ⟨j3 + 1, rfl, rfl, by omega, hbel.trans (Below.low ((Keep.refl (fun _ => False) _).drewN _).law hbel.size)⟩
              · have hj6 : ¬ (j3 : Int) < L.length := by omega
                have hb11 := below_more hb5 hbel
                go_wp2_with (go_at_call 10; refine (wakes_at h2 htab hb11).mono ?_; rintro e w9 ⟨rfl, hb12⟩)
                go_ret
                exact ⟨rfl, hb12⟩
end Go.Proofs.YtedckphklebndaaGreatDoor
