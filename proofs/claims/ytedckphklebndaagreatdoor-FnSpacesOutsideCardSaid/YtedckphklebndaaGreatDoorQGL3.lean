/- The laws' HasMark, IsURL, Starts, walked. No condition. -/
import Derived.Test.YtedckphklebndaaGreatDoorQGR3
import Derived.Test.YtedckphklebndaaGreatDoorQX7
import Derived.Test.YtedckphklebndaaGreatDoorQGP1
import Derived.Test.YtedckphklebndaaGreatDoorQGY5
namespace Go.Proofs.YtedckphklebndaaGreatDoor
open Go Go.RowKit
def hasMarkB (s : ByteArray) : Bool := decide (3 ≤ s.size) && ((s.extract 0 3).toList == [239, 187, 191])
set_option maxRecDepth 100000 in
set_option maxHeartbeats 2000000 in
theorem HasMark_calls (s : ByteArray) (w : World) : Calls Tryz.prog 13 #[.string s] w fun e w' => e = .returned (.bool (hasMarkB s)) ∧ w = w' := by
  unfold hasMarkB
  by_cases h : 3 ≤ s.size
  · have h1 : (3 : Int) ≤ s.size := by omega
    rw [decide_eq_true h]
    cases hb : ((s.extract 0 3).toList == [239, 187, 191]) with
    | true =>
      go_enter Tryz.func13, Tryz.ntmps13
      go_wp2_with fail
      go_ret
      exact ⟨rfl, rfl⟩
    | false =>
      go_enter Tryz.func13, Tryz.ntmps13
      go_wp2_with fail
      go_ret
      exact ⟨rfl, rfl⟩
  · have h1 : ¬ (3 : Int) ≤ s.size := by omega
    rw [decide_eq_false h]
    go_enter Tryz.func13, Tryz.ntmps13
    go_wp2_with fail
    go_ret
    exact ⟨rfl, rfl⟩
set_option maxRecDepth 100000 in
theorem IsURL_calls (s : ByteArray) (w : World) : Calls Tryz.prog 14 #[.string s] w fun e w' => e = .returned (.bool (isUrl s.data.toList)) ∧ w = w' := by
  go_enter Tryz.func14, Tryz.ntmps14
  go_wp2_with (go_at_call 26; refine (isURL_calls _ _).mono ?_; rintro e w' ⟨rfl, rfl⟩)
  go_ret
  exact ⟨rfl, rfl⟩
set_option maxRecDepth 100000 in
theorem implStarts_calls (c : Int) (w : World) : Calls Tryz.prog 22 #[.int .i32 c] w fun e w' => e = .returned (.bool (strt0 c)) ∧ w = w' := by
  go_enter Tryz.func22, Tryz.ntmps22
  go_wp2_with (go_at_call 30; refine (IsNameStart_calls _ _).mono ?_; rintro e w' ⟨rfl, rfl⟩)
  go_ret
  exact ⟨rfl, rfl⟩
end Go.Proofs.YtedckphklebndaaGreatDoor
/- The laws' wakes, walked. Conditions: the tables of unicode/utf8 lie in blocks 0 and 1. -/
namespace Go.Proofs.YtedckphklebndaaGreatDoor
open Go Go.RowKit
theorem nameF_97 : nameF [97, 58, 49] = ([97], [58, 49], false) := by
  have h2 : nameF [58, 49] = ([], [58, 49], false) := nameF_halt (by decide) (by decide)
  rw [ln_nameF_hd, if_pos (by decide), List.tail_cons, h2]
  rfl
theorem wk1 : nextF [97, 58, 49] = ({ kind := 29, text := [97] }, [58, 49], false) := by
  unfold nextF
  rw [if_neg (by decide), if_neg (by decide), if_neg (by decide), if_neg (by decide), if_neg (by decide), if_neg (by decide), if_pos (by decide)]
  unfold namedF
  rw [nameF_97]
  rfl
theorem wk2 : nextF [58, 49] = ({ kind := 9 }, [49], false) := by rfl
theorem wk3 : nextF [49] = ({ kind := 30 }, [], false) := by rfl
theorem wk_toks : (toks [97, 58, 49]).2 = false ∧ ptoks [97, 58, 49] = [({ kind := 29, text := [97] }, [97, 58, 49], [58, 49]), ({ kind := 9 }, [58, 49], [49]), ({ kind := 30 }, [49], [])] := by
  have c1 : cmtsF [97, 58, 49] = ([97, 58, 49], false) := cmtsF_stop (by decide)
  have c2 : cmtsF [58, 49] = ([58, 49], false) := cmtsF_stop (by decide)
  have c3 : cmtsF [49] = ([49], false) := cmtsF_stop (by decide)
  have e1 : endF [97, 58, 49] = [58, 49] := by unfold endF; rw [if_neg (by decide), wk1]
  have e2 : endF [58, 49] = [49] := by unfold endF; rw [if_neg (by decide), wk2]
  have e3 : endF [49] = [] := by unfold endF; rw [if_neg (by decide), wk3]
  constructor
  · rw [toks_cons (by rw [c1]; decide), c1]; simp only; rw [wk1]; simp only
    rw [toks_cons (by rw [c2]; decide), c2]; simp only; rw [wk2]; simp only
    rw [toks_cons (by rw [c3]; decide), c3]; simp only; rw [wk3, toks_nil']
    rfl
  · rw [ptoks_cons (by rw [c1]; decide), c1]; simp only; rw [wk1, e1]
    rw [ptoks_cons (by rw [c2]; decide), c2]; simp only; rw [wk2, e2]
    rw [ptoks_cons (by rw [c3]; decide), c3]; simp only; rw [wk3, e3, ptoks_nil']
theorem wk_sfx : Wt ⟨#[97, 58, 49]⟩ [97, 58, 49] := by
  refine ⟨by decide, ?_⟩
  intro c hc
  simp only [List.mem_cons, List.mem_nil_iff, or_false] at hc
  rcases hc with rfl | rfl | rfl <;> (unfold Rn; decide)
theorem Fa2.three {α β : Type} {R : α → β → Prop} {a b c : α} {L : List β} (h : Fa2 R [a, b, c] L) : ∃ x y z, L = [x, y, z] ∧ R a x ∧ R b y ∧ R c z := by
  cases h with
  | cons h1 h => cases h with
    | cons h2 h => cases h with
      | cons h3 h => cases h; exact ⟨_, _, _, rfl, h1, h2, h3⟩
theorem Fa2.one {α β : Type} {R : α → β → Prop} {a : α} {L : List β} (h : Fa2 R [a] L) : ∃ x, L = [x] ∧ R a x := by
  cases h with
  | cons h1 h => cases h; exact ⟨_, rfl, h1⟩
set_option maxRecDepth 100000 in
set_option maxHeartbeats 4000000 in
theorem wakes_calls {w : World} (h2 : 2 ≤ w.heap.size) (htab : Lib.Utf8Tabs 0 1 w) : Calls Tryz.prog 10 #[] w fun e w' => e = .returned (.bool true) ∧ Below w.heap.size w w' := by
  have hx := Tokens12_calls wk_sfx.sfx wk_sfx.ps (by decide) (by decide) wk_toks.1 h2 htab
  go_enter Tryz.func10, Tryz.ntmps10
  go_wp2_with fail
  refine hx.mono ?_
  rintro e w1 ⟨v, L, rfl, hfa, hrw, hb⟩
  rw [wk_toks.2] at hfa
  obtain ⟨p1, p2, p3, rfl, q1, q2, q3⟩ := hfa.three
  rcases hrw.parts with ⟨_, h0⟩ | ⟨g, cap, cur, rfl, hB, hG, hcap, hcur⟩
  · cases h0
  · have x1 : w1.cell? ⟨g, 0, none⟩ = some (.int .i64 29) := ((blk_cell hG 0).trans (hcur 0 0 p1 rfl (by decide))).trans (congrArg (fun z => some (Value.int .i64 z)) q1.1)
    have x2 : w1.cell? ⟨g, 5, none⟩ = some (.string p1.t) := (blk_cell hG 5).trans (hcur 0 5 p1 rfl (by decide))
    have x3 : w1.cell? ⟨g, 6, none⟩ = some (.int .i64 9) := ((blk_cell hG 6).trans (hcur 1 0 p2 rfl (by decide))).trans (congrArg (fun z => some (Value.int .i64 z)) q2.1)
    have x4 : w1.cell? ⟨g, 12, none⟩ = some (.int .i64 30) := ((blk_cell hG 12).trans (hcur 2 0 p3 rfl (by decide))).trans (congrArg (fun z => some (Value.int .i64 z)) q3.1)
    have x5 : (p1.t.toList == [97]) = true := by
      rw [ByteArray.toList_eq, q1.2.2.2.2.2 rfl]; rfl
    clear hcur q1 q2 q3 hfa hrw
    go_wp2_with (go_at_call 22; refine (implStarts_calls _ _).mono ?_; rintro e w' ⟨rfl, rfl⟩)
    go_ret
    exact ⟨rfl, hb⟩
end Go.Proofs.YtedckphklebndaaGreatDoor
