/- The package's next: its token's cells set, and what it leaves (plain). -/
import Derived.Test.YtedckphklebndaaGreatDoorQR13
import Derived.Test.YtedckphklebndaaGreatDoorQP4
import Derived.Test.YtedckphklebndaaGreatDoorQGZ0
namespace Go.Proofs.YtedckphklebndaaGreatDoor
open Go Go.RowKit
/-- The token's cells behind region 0. -/
def tok0 (r : Nat → Value) : Nat → Value := up (up (up r 38 (.int .u16 0)) 39 (.int .u8 0)) 40 (.int .u8 0)
theorem tok0_out {r : Nat → Value} {j : Nat} (h : j < 38) : tok0 r j = r j := by
  unfold tok0
  rw [up_other (by omega), up_other (by omega), up_other (by omega)]
def wTok (w : World) (g : Nat) (a : Int) : World :=
  ((((w.setCell ⟨g, 36, none⟩ (.int .i32 a)).setCell ⟨g, 37, none⟩ (.int .i32 0)).setCell ⟨g, 38, none⟩ (.int .u16 0)).setCell ⟨g, 39, none⟩ (.int .u8 0)).setCell ⟨g, 40, none⟩ (.int .u8 0)
theorem wTok_keep (w : World) (g : Nat) (a : Int) : KeepB g w (wTok w g a) :=
  (((((Keep.refl (fun k => k = g) w).setCell (fun _ => rfl) _).setCell (fun _ => rfl) _).setCell (fun _ => rfl) _).setCell (fun _ => rfl) _).setCell (fun _ => rfl) _
theorem LA.start {w0 w : World} {g : Nat} {s : ByteArray} {r : Nat → Value} {st : Nat} {l : List Int} (h : LA w0 w g s r st l) : LA w0 (wTok w g (ps s l)) g s (tok0 r) (ps s l) l := by
  obtain ⟨nl, n0, n1, hL⟩ := h.lx
  have hb := h.big
  have hK := wTok_keep w g (ps s l)
  refine ⟨⟨nl, n0, n1, ?_⟩, h.sfx, h.kp.trans hK, h.size, tabs_keep h.tabs hK (by omega) (by omega), h.big, Nat.le_refl _⟩
  unfold LX
  rw [Int.sub_self]
  exact (blk_set (blk_set (blk_set (blk_set (blk_set hL 36 _) 37 _) 38 _) 39 _) 40 _).trans rfl
/-- The lexer between two tokens. -/
structure NQ (S : Nat → Prop) (B : Nat) (k : LK) (w0 w : World) (g : Nat) (s : ByteArray) (r : Nat → Value) (st : Nat) (l lt : List Int) (q : Nat) : Prop where
  lq : LQ S B k w0 w g s r st l lt q
  hq : q ≤ ps s l
  hs : l <:+ lt
  i34 : ∃ x : Int, r 34 = .int .i32 x
section
variable {S : Nat → Prop} {B : Nat} {k : LK} {w0 w w1 : World} {g : Nat} {s : ByteArray} {r : Nat → Value} {st : Nat} {l lt : List Int} {q : Nat}
theorem LQ.start (h : LQ S B k w0 w g s r st l lt q) : LQ S B k w0 (wTok w g (ps s l)) g s (tok0 r) (ps s l) l lt q :=
  h.step h.la.now.start (fun j hj => tok0_out (by omega)) (h.tr.out (fun j _ b => tok0_out (by omega)))
theorem LQ.up39 (h : LQ S B k w0 w g s r st l lt q) (v : Value) : LQ S B k w0 (w.setCell ⟨g, 39, none⟩ v) g s (up r 39 v) st l lt q :=
  h.step (h.la.now.up39 v) (fun j hj => up_other (by omega)) (h.tr.out (fun j _ b => up_other (by omega)))
theorem LQ.up40 (h : LQ S B k w0 w g s r st l lt q) (v : Value) : LQ S B k w0 (w.setCell ⟨g, 40, none⟩ v) g s (up r 40 v) st l lt q :=
  h.step (h.la.now.up40 v) (fun j hj => up_other (by omega)) (h.tr.out (fun j _ b => up_other (by omega)))
theorem LQ.up34 (h : LQ S B k w0 w g s r st l lt q) (v : Value) : LQ S B k w0 (w.setCell ⟨g, 34, none⟩ v) g s (up r 34 v) st l lt q :=
  h.step (h.la.now.up34 v) (fun j hj => up_other (by omega)) (h.tr.out (fun j _ b => up_other (by omega)))
/-- The number's unit in its cell. -/
theorem LQ.num (h : LQ S B k w0 w g s r st l lt q) {l' : List Int} (a : LA w w1 g s (numR r l) st l') : LQ S B k w0 w1 g s (numR r l) st l' lt q := by
  have hn : ∀ j, j < 38 → numR r l j = r j := by
    intro j hj
    unfold numR
    split
    · exact up_other (by omega)
    · rfl
  exact h.step a (fun j hj => hn j (by omega)) (h.tr.out (fun j _ b => hn j (by omega)))
end
/-- The token in the lexer's cells. -/
def TokC (r : Nat → Value) (t : Tok) : Prop := r 39 = .int .u8 t.kind ∧ r 38 = .int .u16 (t.unit % 65536) ∧ ∃ f : Int, r 40 = .int .u8 f ∧ (f = 0 ∨ f = 1 ∨ f = 2) ∧ (f = 1 ↔ t.id = true)
/-- What next leaves: the lexer behind the token m begins with. -/
def NxE (S : Nat → Prop) (B : Nat) (k : LK) (w0 : World) (g : Nat) (s : ByteArray) (m : List Int) (e : Ending) (w' : World) : Prop :=
  e = .returned (.tuple #[]) ∧ ∃ r' lt' q', NQ S B k w0 w' g s r' (ps s m) (endF m) lt' q' ∧ TokC r' (nextF m).1
/-- The loop: what is left has the same tokens. -/
def NxK (S : Nat → Prop) (B : Nat) (k : LK) (w0 : World) (g : Nat) (s : ByteArray) (l : List Int) (n : Nat) (w : World) : Prop :=
  ∃ li r st lt q, li.length = n ∧ cmtsF li = cmtsF l ∧ (toks li).2 = false ∧ NQ S B k w0 w g s r st li lt q
/-- The whitespace loop. -/
def WsK (S : Nat → Prop) (B : Nat) (k : LK) (w0 : World) (g : Nat) (s : ByteArray) (st : Nat) (m : List Int) (n : Nat) (w : World) : Prop :=
  ∃ li r lt q, li.length = n ∧ wsF li = wsF m ∧ (toks li).2 = false ∧ NQ S B k w0 w g s r st li lt q ∧ r 38 = .int .u16 0 ∧ r 40 = .int .u8 0
theorem toks_close {l : List Int} (h : (toks l).2 = false) (h1 : hd l = 47) (h2 : pk l 1 = 42) : ∃ R, closeF (l.drop 2) = some R ∧ cmtsF l = cmtsF R ∧ (toks R).2 = false := by
  cases hc : closeF (l.drop 2) with
  | none =>
    have e := cmts_none h1 h2 hc
    rw [toks_nil (by rw [e]), e] at h
    cases h
  | some R =>
    have e := cmts_some h1 h2 hc
    exact ⟨R, rfl, e, by rw [← toks_of_cmts e]; exact h⟩
theorem toks_next {l : List Int} (h : (toks l).2 = false) (h1 : ¬ (hd l = 47 ∧ pk l 1 = 42)) (h2 : l ≠ []) : (nextF l).2.2 = false ∧ (toks (nextF l).2.1).2 = false := by
  have e := cmts_stop h1
  have e1 : (cmtsF l).1 = l := by rw [e]
  rw [toks_cons (by rw [e1]; exact h2), e1] at h
  simp only [Bool.or_eq_false_iff] at h
  exact ⟨h.1.2, h.2⟩
theorem toks_space {l : List Int} (h : (toks l).2 = false) (h1 : isSp (hd l) = true) : (toks l.tail).2 = false := by
  have hne : l ≠ [] := by rintro rfl; simp [isSp, isNL] at h1
  have hc : ¬ (hd l = 47 ∧ pk l 1 = 42) := by rintro ⟨e, _⟩; rw [e] at h1; revert h1; decide
  have h2 := (toks_next h hc hne).2
  rw [nextF_space h1] at h2
  simp only at h2
  by_cases h3 : isSp (hd l.tail) = true
  · have hne2 : l.tail ≠ [] := by intro e; rw [e] at h3; simp [isSp, isNL] at h3
    have hc2 : ¬ (hd l.tail = 47 ∧ pk l.tail 1 = 42) := by rintro ⟨e, _⟩; rw [e] at h3; revert h3; decide
    have e := cmts_stop hc2
    have e1 : (cmtsF l.tail).1 = l.tail := by rw [e]
    rw [toks_cons (by rw [e1]; exact hne2), e1, nextF_space h3, e]
    simp only [Bool.false_or]
    rw [← spaceF_tail h1]
    exact h2
  · rw [spaceF_tail h1, spaceF_stop (by simpa using h3)] at h2
    exact h2
theorem ws_tail {l : List Int} (h : isSp (hd l) = true) : wsF l.tail = wsF l := by
  rw [← wsF_space l, ← wsF_space l.tail, spaceF_tail h]
theorem ws_cmt {l R : List Int} (h1 : hd l = 47) (h2 : pk l 1 = 42) (h : closeF (l.drop 2) = some R) : wsF R = wsF l := by
  have e : spaceF l = l := spaceF_stop (by rw [h1]; decide)
  exact (wsF_some (by rw [e]; exact ⟨h1, h2⟩) (by rw [e]; exact h)).symm
theorem ws_end {l : List Int} (h0 : isSp (hd l) = false) (h1 : ¬ (hd l = 47 ∧ pk l 1 = 42)) : wsF l = l := by
  have e : spaceF l = l := spaceF_stop h0
  rw [wsF_stop (by rw [e]; exact h1), e]
theorem NQ.q {S : Nat → Prop} {B : Nat} {k : LK} {w0 w : World} {g : Nat} {s : ByteArray} {r : Nat → Value} {st : Nat} {l lt : List Int} {q : Nat} (h : NQ S B k w0 w g s r st l lt q) : q ≤ 1073741824 := Nat.le_trans h.hq (Nat.le_trans (ps_le s l) h.lq.la.size)
end Go.Proofs.YtedckphklebndaaGreatDoor
/- The reference's next, by the code point ahead (plain). -/
namespace Go.Proofs.YtedckphklebndaaGreatDoor
open Go Go.RowKit
/-- Signs that are a token each. -/
def isDelim (c : Int) : Bool := c == 40 || c == 41 || c == 91 || c == 93 || c == 123 || c == 125 || c == 44 || c == 58 || c == 59 || c == 47 || c == 62 || c == 126 || c == 38 || c == 42 || c == 124 || c == 33 || c == 61 || c == 94 || c == 36
theorem nextF_delim {l : List Int} (h : isDelim (hd l) = true) : nextF l = ({ kind := signK (hd l) }, l.tail, false) := by
  obtain ⟨c, hc⟩ : ∃ c, hd l = c := ⟨_, rfl⟩
  have hne : l ≠ [] := by rintro rfl; revert h; decide
  unfold nextF
  rw [if_neg hne, pk_zero, hc]
  rw [hc] at h
  unfold isDelim at h
  simp only [Bool.or_eq_true, beq_iff_eq] at h
  have h1 : isSp c = false := by
    rcases h with (((((((((((((((((h|h)|h)|h)|h)|h)|h)|h)|h)|h)|h)|h)|h)|h)|h)|h)|h)|h)|h <;> subst h <;> rfl
  have h2 : strt c = false ∧ isDg c = false ∧ c ≠ 34 ∧ c ≠ 39 ∧ c ≠ 35 ∧ c ≠ 45 ∧ c ≠ 43 ∧ c ≠ 46 ∧ c ≠ 92 ∧ c ≠ 60 ∧ c ≠ 64 := by
    rcases h with (((((((((((((((((h|h)|h)|h)|h)|h)|h)|h)|h)|h)|h)|h)|h)|h)|h)|h)|h)|h)|h <;> subst h <;> decide
  obtain ⟨a1, a2, a3, a4, a5, a6, a7, a8, a9, a10, a11⟩ := h2
  have hcn : cnts c (pk l 1) (pk l 2) = false := by
    unfold cnts
    rw [if_neg (by omega), a2]
    simp [a8]
  have hid : idnt c (pk l 1) (pk l 2) = false := by
    unfold idnt escs
    rw [if_neg a6, a1]
    simp [a9]
  rw [h1, hcn, hid]
  simp [a3, a4, a5, a6, a10, a11]
theorem nextF_quot {l : List Int} (h : hd l = 34 ∨ hd l = 39) : nextF l = quotF (hd l) [] l.tail := by
  have hne : l ≠ [] := by rintro rfl; revert h; decide
  unfold nextF
  have h1 : isSp (hd l) = false := by rcases h with e | e <;> rw [e] <;> rfl
  rw [if_neg hne, h1, if_neg (by decide), if_pos h]
theorem nextF_hash {l : List Int} (h : hd l = 35) : nextF l = if cont (pk l 1) = true ∨ escs (pk l 1) (pk l 2) = true then ({ kind := 28, id := idnt (pk l 1) (pk l 2) (pk l 3), text := (nameF l.tail).1 }, (nameF l.tail).2.1, (nameF l.tail).2.2) else ({ kind := 11 }, l.tail, false) := by
  have hne : l ≠ [] := by rintro rfl; revert h; decide
  unfold nextF
  rw [if_neg hne, pk_zero, h]
  simp only [show isSp 35 = false from rfl, true_and]
  by_cases e : cont (pk l 1) = true ∨ escs (pk l 1) (pk l 2) = true
  · simp [e]
  · have h1 : cnts 35 (pk l 1) (pk l 2) = false := by unfold cnts; simp [isDg]
    have h2 : idnt 35 (pk l 1) (pk l 2) = false := by unfold idnt escs; simp [strt]
    simp [e, h1, h2, signK]
theorem nextF_num {l : List Int} (h : cnts (hd l) (pk l 1) (pk l 2) = true) : nextF l = numF l := by
  have hc : isSp (hd l) = false ∧ hd l ≠ 34 ∧ hd l ≠ 39 ∧ hd l ≠ 35 ∧ hd l ≠ -1 := by
    unfold cnts at h
    unfold isSp isNL
    split at h
    · rename_i e
      rcases e with e | e <;> rw [e] <;> decide
    · by_cases e : hd l = 46
      · rw [e]; decide
      · simp only [beq_eq_false_iff_ne.2 e, Bool.false_and, Bool.or_false, isDg, Bool.and_eq_true, decide_eq_true_eq] at h
        refine ⟨?_, by omega, by omega, by omega, by omega⟩
        simp only [Bool.or_eq_false_iff, beq_eq_false_iff_ne]
        omega
  have hne : l ≠ [] := by rintro rfl; exact hc.2.2.2.2 rfl
  unfold nextF
  rw [if_neg hne, pk_zero, hc.1, h]
  simp [hc.2.1, hc.2.2.1, hc.2.2.2.1]
theorem nextF_named {l : List Int} (h : idnt (hd l) (pk l 1) (pk l 2) = true) (h0 : cnts (hd l) (pk l 1) (pk l 2) = false) (h1 : ¬ (hd l = 45 ∧ pk l 1 = 45 ∧ pk l 2 = 62)) : nextF l = namedF l := by
  have hc : isSp (hd l) = false ∧ hd l ≠ 34 ∧ hd l ≠ 39 ∧ hd l ≠ 35 ∧ hd l ≠ -1 := by
    unfold idnt at h
    unfold isSp isNL
    split at h
    · rename_i e
      rw [e]; decide
    · unfold strt escs at h
      simp only [Bool.or_eq_true, Bool.and_eq_true, decide_eq_true_eq, beq_iff_eq] at h
      refine ⟨?_, by omega, by omega, by omega, by omega⟩
      simp only [Bool.or_eq_false_iff, beq_eq_false_iff_ne]
      omega
  have hne : l ≠ [] := by rintro rfl; exact hc.2.2.2.2 rfl
  unfold nextF
  rw [if_neg hne, pk_zero, hc.1, h0, h]
  simp [hc.2.1, hc.2.2.1, hc.2.2.2.1, h1]
theorem nextF_plus {l : List Int} (h : hd l = 43 ∨ hd l = 46) (h0 : cnts (hd l) (pk l 1) (pk l 2) = false) : nextF l = ({ kind := signK (hd l) }, l.tail, false) := by
  have hne : l ≠ [] := by rintro rfl; revert h; decide
  unfold nextF
  rw [if_neg hne, pk_zero, h0]
  rcases h with e | e <;> rw [e] <;> simp [isSp, isNL, idnt, escs, strt]
theorem nextF_cdc {l : List Int} (h : hd l = 45 ∧ pk l 1 = 45 ∧ pk l 2 = 62) : nextF l = ({ kind := 4 }, l.drop 3, false) := by
  have hne : l ≠ [] := by rintro rfl; exact absurd h.1 (by decide)
  have h0 : cnts (hd l) (pk l 1) (pk l 2) = false := by rw [h.1, h.2.1, h.2.2]; rfl
  unfold nextF
  rw [if_neg hne, pk_zero, h0]
  simp [h.1, h.2.1, h.2.2, isSp, isNL]
theorem nextF_minus {l : List Int} (h : hd l = 45) (h0 : cnts (hd l) (pk l 1) (pk l 2) = false) (h1 : idnt (hd l) (pk l 1) (pk l 2) = false) : nextF l = ({ kind := 22 }, l.tail, false) := by
  have hne : l ≠ [] := by rintro rfl; exact absurd h (by decide)
  have h2 : ¬ (pk l 1 = 45 ∧ pk l 2 = 62) := by
    rintro ⟨e, _⟩
    rw [h, e] at h1
    simp [idnt] at h1
  unfold nextF
  rw [if_neg hne, pk_zero, h0, h1, h]
  simp [isSp, isNL, h2, signK]
theorem nextF_lt1 {l : List Int} (h : hd l = 60) : nextF l = if pk l 1 = 33 ∧ pk l 2 = 45 ∧ pk l 3 = 45 then ({ kind := 5 }, l.drop 4, false) else ({ kind := 21 }, l.tail, false) := by
  have hne : l ≠ [] := by rintro rfl; exact absurd h (by decide)
  have h0 : cnts (hd l) (pk l 1) (pk l 2) = false := by rw [h]; unfold cnts; simp [isDg]
  have h1 : idnt (hd l) (pk l 1) (pk l 2) = false := by rw [h]; unfold idnt escs; simp [strt]
  unfold nextF
  rw [if_neg hne, pk_zero, h0, h1, h]
  simp [isSp, isNL, signK]
theorem nextF_at {l : List Int} (h : hd l = 64) : nextF l = if idnt (pk l 1) (pk l 2) (pk l 3) = true then ({ kind := 1, text := (nameF l.tail).1 }, (nameF l.tail).2.1, (nameF l.tail).2.2) else ({ kind := 11 }, l.tail, false) := by
  have hne : l ≠ [] := by rintro rfl; exact absurd h (by decide)
  have h0 : cnts (hd l) (pk l 1) (pk l 2) = false := by rw [h]; unfold cnts; simp [isDg]
  have h1 : idnt (hd l) (pk l 1) (pk l 2) = false := by rw [h]; unfold idnt escs; simp [strt]
  unfold nextF
  rw [if_neg hne, pk_zero, h0, h1, h]
  simp [isSp, isNL, signK]
theorem nextF_back {l : List Int} (h : hd l = 92) (h0 : escs (hd l) (pk l 1) = false) : nextF l = ({ kind := 11 }, l.tail, false) := by
  have hne : l ≠ [] := by rintro rfl; exact absurd h (by decide)
  have h1 : cnts (hd l) (pk l 1) (pk l 2) = false := by rw [h]; unfold cnts; simp [isDg]
  have h2 : idnt (hd l) (pk l 1) (pk l 2) = false := by unfold idnt; rw [h0, h]; simp [strt]
  unfold nextF
  rw [if_neg hne, pk_zero, h1, h2, h]
  simp [isSp, isNL, signK]
/-- None of the signs that next tests for. -/
def isOther (c : Int) : Bool := !(isDelim c || isSp c || isDg c || c == 34 || c == 39 || c == 35 || c == 43 || c == 45 || c == 46 || c == 60 || c == 64 || c == 92 || c == -1)
theorem nextF_other {l : List Int} (h : isOther (hd l) = true) (h1 : idnt (hd l) (pk l 1) (pk l 2) = false) : nextF l = ({ kind := 11 }, l.tail, false) := by
  unfold isOther at h
  simp only [Bool.not_eq_true', Bool.or_eq_false_iff, beq_eq_false_iff_ne] at h
  obtain ⟨⟨⟨⟨⟨⟨⟨⟨⟨⟨⟨⟨b1, b2⟩, b3⟩, b4⟩, b5⟩, b6⟩, b7⟩, b8⟩, b9⟩, b10⟩, b11⟩, b12⟩, b13⟩ := h
  have hne : l ≠ [] := by rintro rfl; exact b13 rfl
  have h0 : cnts (hd l) (pk l 1) (pk l 2) = false := by unfold cnts; rw [if_neg (by omega), b3]; simp [b9]
  have hs : signK (hd l) = 11 := by
    unfold isDelim at b1
    simp only [Bool.or_eq_false_iff, beq_eq_false_iff_ne] at b1
    unfold signK
    simp [b1, b7, b8, b9, b10]
  unfold nextF
  rw [if_neg hne, pk_zero, h0, h1, b2, hs]
  simp [b4, b5, b6, b8, b10, b11]
theorem idnt_other {l : List Int} (h : isOther (hd l) = true) : idnt (hd l) (pk l 1) (pk l 2) = strt (hd l) := by
  unfold isOther at h
  simp only [Bool.not_eq_true', Bool.or_eq_false_iff, beq_eq_false_iff_ne] at h
  obtain ⟨⟨⟨⟨⟨⟨⟨⟨⟨⟨⟨⟨b1, b2⟩, b3⟩, b4⟩, b5⟩, b6⟩, b7⟩, b8⟩, b9⟩, b10⟩, b11⟩, b12⟩, b13⟩ := h
  unfold idnt escs
  rw [if_neg b8]
  simp [b12]
theorem nextF_oname {l : List Int} (h : isOther (hd l) = true) (h1 : idnt (hd l) (pk l 1) (pk l 2) = true) : nextF l = namedF l := by
  unfold isOther at h
  simp only [Bool.not_eq_true', Bool.or_eq_false_iff, beq_eq_false_iff_ne] at h
  obtain ⟨⟨⟨⟨⟨⟨⟨⟨⟨⟨⟨⟨b1, b2⟩, b3⟩, b4⟩, b5⟩, b6⟩, b7⟩, b8⟩, b9⟩, b10⟩, b11⟩, b12⟩, b13⟩ := h
  exact nextF_named h1 (by unfold cnts; rw [if_neg (by omega), b3]; simp [b9]) (fun e => b8 e.1)
end Go.Proofs.YtedckphklebndaaGreatDoor
/- The package's next: its loop's body, its frame, and how a round ends. -/
namespace Go.Proofs.YtedckphklebndaaGreatDoor
open Go Go.RowKit
def firstLoop : Code → Option Code
  | .loop c => some c
  | .seq a b => match firstLoop a with
    | some c => some c
    | none => firstLoop b
  | .block _ c => firstLoop c
  | .scope c => firstLoop c
  | .cond _ a b => match firstLoop a with
    | some c => some c
    | none => firstLoop b
  | _ => none
noncomputable def nxBody : Code := ((Tryz.f57.body.bind firstLoop).getD .skip)
/-- The frame of next, in letters. -/
def fr592 (p : Value) (f : Nat → Value) : Array Value := #[p, f 1, f 2, f 3, f 4, f 5, f 6, f 7, f 8, f 9, f 10, f 11, f 12, f 13, f 14, f 15, f 16, f 17, f 18, f 19, f 20, f 21, f 22, f 23, f 24, f 25, f 26, f 27, f 28, f 29, f 30, f 31, f 32, f 33, f 34, f 35, f 36, f 37, f 38, f 39, f 40, f 41, f 42, f 43, f 44, f 45, f 46, f 47, f 48, f 49, f 50, f 51, f 52, f 53, f 54, f 55, f 56, f 57, f 58, f 59, f 60, f 61, f 62, f 63, f 64, f 65, f 66, f 67, f 68, f 69, f 70, f 71, f 72, f 73, f 74, f 75, f 76, f 77, f 78, f 79, f 80, f 81, f 82, f 83, f 84, f 85, f 86, f 87, f 88, f 89, f 90, f 91, f 92, f 93, f 94, f 95, f 96, f 97, f 98, f 99, f 100, f 101, f 102, f 103, f 104, f 105, f 106, f 107, f 108, f 109, f 110, f 111, f 112, f 113, f 114, f 115, f 116, f 117, f 118, f 119, f 120, f 121, f 122, f 123, f 124, f 125, f 126, f 127, f 128, f 129, f 130, f 131, f 132, f 133, f 134, f 135, f 136, f 137, f 138, f 139, f 140, f 141, f 142, f 143, f 144, f 145, f 146, f 147, f 148, f 149, f 150, f 151, f 152, f 153, f 154, f 155, f 156, f 157, f 158, f 159, f 160, f 161, f 162, f 163, f 164, f 165, f 166, f 167, f 168, f 169, f 170, f 171, f 172, f 173, f 174, f 175, f 176, f 177, f 178, f 179, f 180, f 181, f 182, f 183, f 184, f 185, f 186, f 187, f 188, f 189, f 190, f 191, f 192, f 193, f 194, f 195, f 196, f 197, f 198, f 199, f 200, f 201, f 202, f 203, f 204, f 205, f 206, f 207, f 208, f 209, f 210, f 211, f 212, f 213, f 214, f 215, f 216, f 217, f 218, f 219, f 220, f 221, f 222, f 223, f 224, f 225, f 226, f 227, f 228, f 229, f 230, f 231, f 232, f 233, f 234, f 235, f 236, f 237, f 238, f 239, f 240, f 241, f 242, f 243, f 244, f 245, f 246, f 247, f 248, f 249, f 250, f 251, f 252, f 253, f 254, f 255, f 256, f 257, f 258, f 259, f 260, f 261, f 262, f 263, f 264, f 265, f 266, f 267, f 268, f 269, f 270, f 271, f 272, f 273, f 274, f 275, f 276, f 277, f 278, f 279, f 280, f 281, f 282, f 283, f 284, f 285, f 286, f 287, f 288, f 289, f 290, f 291, f 292, f 293, f 294, f 295, f 296, f 297, f 298, f 299, f 300, f 301, f 302, f 303, f 304, f 305, f 306, f 307, f 308, f 309, f 310, f 311, f 312, f 313, f 314, f 315, f 316, f 317, f 318, f 319, f 320, f 321, f 322, f 323, f 324, f 325, f 326, f 327, f 328, f 329, f 330, f 331, f 332, f 333, f 334, f 335, f 336, f 337, f 338, f 339, f 340, f 341, f 342, f 343, f 344, f 345, f 346, f 347, f 348, f 349, f 350, f 351, f 352, f 353, f 354, f 355, f 356, f 357, f 358, f 359, f 360, f 361, f 362, f 363, f 364, f 365, f 366, f 367, f 368, f 369, f 370, f 371, f 372, f 373, f 374, f 375, f 376, f 377, f 378, f 379, f 380, f 381, f 382, f 383, f 384, f 385, f 386, f 387, f 388, f 389, f 390, f 391, f 392, f 393, f 394, f 395, f 396, f 397, f 398, f 399, f 400, f 401, f 402, f 403, f 404, f 405, f 406, f 407, f 408, f 409, f 410, f 411, f 412, f 413, f 414, f 415, f 416, f 417, f 418, f 419, f 420, f 421, f 422, f 423, f 424, f 425, f 426, f 427, f 428, f 429, f 430, f 431, f 432, f 433, f 434, f 435, f 436, f 437, f 438, f 439, f 440, f 441, f 442, f 443, f 444, f 445, f 446, f 447, f 448, f 449, f 450, f 451, f 452, f 453, f 454, f 455, f 456, f 457, f 458, f 459, f 460, f 461, f 462, f 463, f 464, f 465, f 466, f 467, f 468, f 469, f 470, f 471, f 472, f 473, f 474, f 475, f 476, f 477, f 478, f 479, f 480, f 481, f 482, f 483, f 484, f 485, f 486, f 487, f 488, f 489, f 490, f 491, f 492, f 493, f 494, f 495, f 496, f 497, f 498, f 499, f 500, f 501, f 502, f 503, f 504, f 505, f 506, f 507, f 508, f 509, f 510, f 511, f 512, f 513, f 514, f 515, f 516, f 517, f 518, f 519, f 520, f 521, f 522, f 523, f 524, f 525, f 526, f 527, f 528, f 529, f 530, f 531, f 532, f 533, f 534, f 535, f 536, f 537, f 538, f 539, f 540, f 541, f 542, f 543, f 544, f 545, f 546, f 547, f 548, f 549, f 550, f 551, f 552, f 553, f 554, f 555, f 556, f 557, f 558, f 559, f 560, f 561, f 562, f 563, f 564, f 565, f 566, f 567, f 568, f 569, f 570, f 571, f 572, f 573, f 574, f 575, f 576, f 577, f 578, f 579, f 580, f 581, f 582, f 583, f 584, f 585, f 586, f 587, f 588, f 589, f 590, f 591]
/-- The frame of next: the lexer, and whatever. -/
def NxF (g : Nat) (a : Act) : Prop := a.defers = [] ∧ a.tmps.size = 592 ∧ a.tmps[0]? = some (.pointer (some ⟨g, 0, none⟩))
/-- What a round of next's loop leaves. -/
def NxR (S : Nat → Prop) (B : Nat) (k : LK) (w0 : World) (g : Nat) (s : ByteArray) (l : List Int) (e : Exit) (a : Act) (w : World) : Prop :=
  NxF g a ∧ ((e = .normal ∧ ∃ n', n' < l.length ∧ NxK S B k w0 g s l n' w) ∨ (e = .ret ∧ ¬ (hd l = 47 ∧ pk l 1 = 42) ∧ ∃ r' lt' q', NQ S B k w0 w g s r' (ps s l) (endF l) lt' q' ∧ TokC r' (nextF l).1))
theorem TokC.plain {r : Nat → Value} {K : Int} {t : Tok} (h1 : t.kind = K) (h2 : t.unit = 0) (h3 : t.id = false) (h38 : r 38 = .int .u16 0) (h40 : r 40 = .int .u8 0) : TokC (up r 39 (.int .u8 K)) t := by
  refine ⟨by rw [up_same, h1], by rw [up_other (by decide), h2, h38]; rfl, 0, by rw [up_other (by decide), h40], .inl rfl, ?_⟩
  rw [h3]
  exact ⟨fun e => absurd e (by decide), fun e => absurd e (by decide)⟩
theorem tok0_38 (r : Nat → Value) : tok0 r 38 = .int .u16 0 := rfl
theorem tok0_40 (r : Nat → Value) : tok0 r 40 = .int .u8 0 := rfl
section
variable {S : Nat → Prop} {B : Nat} {k : LK} {w0 w w2 : World} {g : Nat} {s : ByteArray} {r r2 : Nat → Value} {st : Nat} {l R lt lt2 : List Int} {q q2 : Nat}
/-- A token that is not a number and no hash. -/
theorem NxR.one (hQ : LQ S B k w0 w2 g s r2 (ps s l) R lt2 q2) (h38 : r2 38 = .int .u16 0) (h40 : r2 40 = .int .u8 0) (h34 : ∃ x : Int, r2 34 = .int .i32 x) {K : Int} (hc : ¬ (hd l = 47 ∧ pk l 1 = 42)) (he : endF l = R) (hk : (nextF l).1.kind = K) (hu : (nextF l).1.unit = 0) (hi : (nextF l).1.id = false) (hq : q2 ≤ ps s R) (hs : R <:+ lt2) {a : Act} (hf : NxF g a) :
    NxR S B k w0 g s l .ret a (w2.setCell ⟨g, 39, none⟩ (.int .u8 K)) := by
  refine ⟨hf, .inr ⟨rfl, hc, _, lt2, q2, ⟨?_, ?_, ?_, ?_⟩, TokC.plain hk hu hi h38 h40⟩⟩
  · rw [he]; exact hQ.up39 _
  · rw [he]; exact hq
  · rw [he]; exact hs
  · obtain ⟨x, hx⟩ := h34
    exact ⟨x, by rw [up_other (by decide)]; exact hx⟩
theorem NQ.tok34 (h : NQ S B k w0 w g s r st l lt q) : ∃ x : Int, tok0 r 34 = .int .i32 x := by
  obtain ⟨x, hx⟩ := h.i34
  exact ⟨x, by rw [tok0_out (by decide)]; exact hx⟩
theorem NQ.suf (h : NQ S B k w0 w g s r st l lt q) (hR : R <:+ l) : q ≤ ps s R ∧ R <:+ lt := by
  have h1 := ps_suf h.lq.la.sfx hR
  have h2 := h.hq
  exact ⟨by omega, hR.trans h.hs⟩
/-- One more message or comment where a code point is eaten. -/
theorem NQ.lts (h : NQ S B k w0 w g s r st l lt q) (hR : R <:+ l) {n : Nat} (hn : R.length + n ≤ l.length) : q + n ≤ ps s R := by
  have h1 := ps_suf h.lq.la.sfx hR
  have h2 := h.hq
  omega
end
theorem tail_suf (l : List Int) : l.tail <:+ l := List.tail_suffix l
end Go.Proofs.YtedckphklebndaaGreatDoor
