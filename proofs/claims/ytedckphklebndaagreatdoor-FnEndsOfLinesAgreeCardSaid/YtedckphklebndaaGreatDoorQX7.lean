/- Ends of lines: a text whose line feeds are replaced by other ends of lines has the same tokens. No condition; no program in sight. -/
import Derived.Test.YtedckphklebndaaGreatDoorQGX3
namespace Go.Proofs.YtedckphklebndaaGreatDoor
open Go
/-- The same text, its line feeds replaced. -/
inductive Ln : List Int → List Int → Prop
  | nil : Ln [] []
  | cons {c : Int} {a b : List Int} : isNL c = false → Ln a b → Ln (c :: a) (c :: b)
  | lf {a b : List Int} : Ln a b → Ln (10 :: a) (10 :: b)
  | ff {a b : List Int} : Ln a b → Ln (10 :: a) (12 :: b)
  | cr {a b : List Int} : Ln a b → Ln (10 :: a) (13 :: 10 :: b)
section
variable {a b : List Int} {α : Type}
theorem Ln.one (p : Int → α) (h1 : p 12 = p 10) (h2 : p 13 = p 10) (h : Ln a b) : p (hd a) = p (hd b) := by
  cases h <;> simp [h1, h2]
theorem Ln.two (p : Int → Int → α) (h0 : ∀ y, p 10 y = p 10 0) (h1 : ∀ y, p 12 y = p 10 0) (h2 : ∀ y, p 13 y = p 10 0) (k1 : ∀ c, p c 12 = p c 10) (k2 : ∀ c, p c 13 = p c 10) (h : Ln a b) : p (hd a) (pk a 1) = p (hd b) (pk b 1) := by
  cases h with
  | nil => rfl
  | cons hc h => simp only [hd_cons, pk_cons, pk_zero]; exact h.one _ (k1 _) (k2 _)
  | lf h => simp only [hd_cons, h0]
  | ff h => simp only [hd_cons, h0, h1]
  | cr h => simp only [hd_cons, h0, h2]
theorem Ln.three (p : Int → Int → Int → α) (h0 : ∀ y z, p 10 y z = p 10 0 0) (h1 : ∀ y z, p 12 y z = p 10 0 0) (h2 : ∀ y z, p 13 y z = p 10 0 0)
    (k0 : ∀ c z, p c 10 z = p c 10 0) (k1 : ∀ c z, p c 12 z = p c 10 0) (k2 : ∀ c z, p c 13 z = p c 10 0) (l1 : ∀ c d, p c d 12 = p c d 10) (l2 : ∀ c d, p c d 13 = p c d 10) (h : Ln a b) : p (hd a) (pk a 1) (pk a 2) = p (hd b) (pk b 1) (pk b 2) := by
  cases h with
  | nil => rfl
  | cons hc h => simp only [hd_cons, pk_cons, pk_zero]; exact h.two _ (k0 _) (k1 _) (k2 _) (l1 _) (l2 _)
  | lf h => simp only [hd_cons]; rw [h0, h0 (pk _ 1)]
  | ff h => simp only [hd_cons]; rw [h0, h1]
  | cr h => simp only [hd_cons]; rw [h0, h2]
theorem Ln.tl (h : Ln a b) (hn : isNL (hd a) = false) : Ln a.tail b.tail := by
  cases h with
  | nil => exact .nil
  | cons _ h => exact h
  | lf h => simp [isNL] at hn
  | ff h => simp [isNL] at hn
  | cr h => simp [isNL] at hn
theorem Ln.nl (h : Ln a b) : isNL (hd a) = isNL (hd b) := h.one _ (by decide) (by decide)
theorem Ln.hdeq (h : Ln a b) (hn : isNL (hd a) = false) : hd a = hd b := by
  cases h with
  | nil => rfl
  | cons _ h => rfl
  | lf h => simp [isNL] at hn
  | ff h => simp [isNL] at hn
  | cr h => simp [isNL] at hn
theorem Ln.eqc (c : Int) (hc : isNL c = false) (h : Ln a b) : hd a = c ↔ hd b = c := by
  constructor
  · intro e; rw [← h.hdeq (by rw [e]; exact hc), e]
  · intro e
    have h1 := h.nl
    rw [e, hc] at h1
    rw [h.hdeq h1, e]
theorem Ln.nileq (h : Ln a b) : a = [] ↔ b = [] := by cases h <;> simp
theorem Ln.pidnt (h : Ln a b) : idnt (hd a) (pk a 1) (pk a 2) = idnt (hd b) (pk b 1) (pk b 2) := by
  refine h.three Proofs.YtedckphklebndaaGreatDoor.idnt ?_ ?_ ?_ ?_ ?_ ?_ ?_ ?_ <;> intros <;> simp [Proofs.YtedckphklebndaaGreatDoor.idnt, strt, escs, isNL]
theorem Ln.pcnts (h : Ln a b) : cnts (hd a) (pk a 1) (pk a 2) = cnts (hd b) (pk b 1) (pk b 2) := by
  refine h.three Proofs.YtedckphklebndaaGreatDoor.cnts ?_ ?_ ?_ ?_ ?_ ?_ ?_ ?_ <;> intros <;> simp [Proofs.YtedckphklebndaaGreatDoor.cnts, isDg]
theorem Ln.pescs (h : Ln a b) : escs (hd a) (pk a 1) = escs (hd b) (pk b 1) := by
  refine h.two Proofs.YtedckphklebndaaGreatDoor.escs ?_ ?_ ?_ ?_ ?_ <;> intros <;> simp [Proofs.YtedckphklebndaaGreatDoor.escs, isNL]
theorem Ln.drop {p : Int → Bool} (h0 : p 12 = p 10) (h1 : p 13 = p 10) (h : Ln a b) : Ln (a.dropWhile p) (b.dropWhile p) := by
  induction h with
  | nil => exact .nil
  | @cons c a b hc h ih =>
    cases q : p c with
    | true => rw [List.dropWhile_cons_of_pos q, List.dropWhile_cons_of_pos q]; exact ih
    | false => rw [List.dropWhile_cons_of_neg (by simp [q]), List.dropWhile_cons_of_neg (by simp [q])]; exact .cons hc h
  | lf h ih =>
    cases q : p 10 with
    | true => rw [List.dropWhile_cons_of_pos q, List.dropWhile_cons_of_pos q]; exact ih
    | false => rw [List.dropWhile_cons_of_neg (by simp [q]), List.dropWhile_cons_of_neg (by simp [q])]; exact .lf h
  | ff h ih =>
    cases q : p 10 with
    | true => rw [List.dropWhile_cons_of_pos q, List.dropWhile_cons_of_pos (by rw [h0, q])]; exact ih
    | false => rw [List.dropWhile_cons_of_neg (by simp [q]), List.dropWhile_cons_of_neg (by simp [h0, q])]; exact .ff h
  | cr h ih =>
    cases q : p 10 with
    | true => rw [List.dropWhile_cons_of_pos q, List.dropWhile_cons_of_pos (by rw [h1, q]), List.dropWhile_cons_of_pos q]; exact ih
    | false => rw [List.dropWhile_cons_of_neg (by simp [q]), List.dropWhile_cons_of_neg (by simp [h1, q])]; exact .cr h
theorem Ln.space (h : Ln a b) : Ln (spaceF a) (spaceF b) := h.drop (by decide) (by decide)
theorem Ln.digit (h : Ln a b) : Ln (digitF a) (digitF b) := h.drop (by decide) (by decide)
theorem Ln.take (h : Ln a b) (hn : isNL (hd a) = true) : Ln (nlTake a) (nlTake b) := by
  cases h with
  | nil => simp [isNL] at hn
  | cons hc _ => simp only [hd_cons] at hn; rw [hc] at hn; cases hn
  | lf h => simpa [nlTake] using h
  | ff h => simpa [nlTake] using h
  | cr h => simpa [nlTake] using h
theorem Ln.hexs (n : Nat) : ∀ (v : Int) {a b : List Int}, Ln a b → (hexs n v a).1 = (hexs n v b).1 ∧ Ln (hexs n v a).2 (hexs n v b).2 := by
  induction n with
  | zero => intro v a b h; exact ⟨rfl, h⟩
  | succ n ih =>
    intro v a b h
    cases h with
    | nil => exact ⟨rfl, .nil⟩
    | @cons c a b hc h =>
      unfold Proofs.YtedckphklebndaaGreatDoor.hexs
      by_cases q : 0 ≤ hexv c
      · rw [if_pos q, if_pos q]; exact ih _ h
      · rw [if_neg q, if_neg q]; exact ⟨rfl, .cons hc h⟩
    | lf h => exact ⟨rfl, .lf h⟩
    | ff h => exact ⟨rfl, .ff h⟩
    | cr h => exact ⟨rfl, .cr h⟩
theorem Ln.rest (h : Ln a b) : Ln (escRest a) (escRest b) := by
  unfold escRest
  rw [← h.nl]
  split
  · rename_i e; exact h.take e
  · rename_i e
    rw [h.one isSp (by decide) (by decide)]
    split
    · exact h.tl (by simpa using e)
    · exact h
theorem Ln.esc (h : Ln a b) (hn : isNL (hd a) = false) : (escF a).1 = (escF b).1 ∧ Ln (escF a).2.1 (escF b).2.1 ∧ (escF a).2.2 = (escF b).2.2 := by
  cases h with
  | nil => exact ⟨rfl, .nil, rfl⟩
  | @cons c a b hc h =>
    simp only [escF]
    by_cases q : hexv c < 0
    · rw [if_pos q, if_pos q]; exact ⟨rfl, h, rfl⟩
    · rw [if_neg q, if_neg q]
      have h2 := (Ln.cons hc h).hexs 6 0
      exact ⟨by rw [h2.1], h2.2.rest, h2.2.nl⟩
  | lf h => simp [isNL] at hn
  | ff h => simp [isNL] at hn
  | cr h => simp [isNL] at hn
/-- As many bytes read. -/
def LD (a r b t : List Int) : Prop := (encs a).length + (encs t).length = (encs b).length + (encs r).length
theorem LD.trans {a r b t x y : List Int} (h : LD a r b t) (k : LD r x t y) : LD a x b y := by unfold LD at *; omega
theorem LD.cons (c : Int) (a b : List Int) : LD (c :: a) a (c :: b) b := by unfold LD; simp only [encs, List.length_append]; omega
theorem LD.refl (a b : List Int) : LD a a b b := by unfold LD; omega
theorem LD.tl (h : Ln a b) (hn : isNL (hd a) = false) : LD a a.tail b b.tail := by
  cases h with
  | nil => exact LD.refl _ _
  | cons _ h => exact LD.cons _ _ _
  | lf h => simp [isNL] at hn
  | ff h => simp [isNL] at hn
  | cr h => simp [isNL] at hn
theorem LD.hexs (n : Nat) : ∀ (v : Int) {a b : List Int}, Ln a b → LD a (hexs n v a).2 b (hexs n v b).2 := by
  induction n with
  | zero => intro v a b h; exact LD.refl _ _
  | succ n ih =>
    intro v a b h
    cases h with
    | nil => exact LD.refl _ _
    | @cons c a b hc h =>
      unfold Proofs.YtedckphklebndaaGreatDoor.hexs
      by_cases q : 0 ≤ hexv c
      · rw [if_pos q, if_pos q]; exact (LD.cons c a b).trans (ih _ h)
      · rw [if_neg q, if_neg q]; exact LD.refl _ _
    | lf h => exact LD.refl _ _
    | ff h => exact LD.refl _ _
    | cr h => exact LD.refl _ _
theorem LD.esc (h : Ln a b) (hn : isNL (hd a) = false) (ho : (escF a).2.2 = false) : LD a (escF a).2.1 b (escF b).2.1 := by
  cases h with
  | nil => exact LD.refl _ _
  | @cons c a b hc h =>
    simp only [escF] at ho ⊢
    by_cases q : hexv c < 0
    · rw [if_pos q, if_pos q]; exact LD.cons _ _ _
    · rw [if_neg q] at ho
      rw [if_neg q, if_neg q]
      simp only at ho ⊢
      have h2 := (Ln.cons hc h).hexs 6 0
      refine (LD.hexs 6 0 (Ln.cons hc h)).trans ?_
      unfold escRest
      rw [← h2.2.nl, ho]
      simp only [Bool.false_eq_true, if_false]
      rw [← h2.2.one isSp (by decide) (by decide)]
      split
      · exact LD.tl h2.2 ho
      · exact LD.refl _ _
  | lf h => simp [isNL] at hn
  | ff h => simp [isNL] at hn
  | cr h => simp [isNL] at hn
end
theorem ln_cont_nl {c : Int} (h : cont c = true) : isNL c = false := by
  cases q : isNL c with
  | false => rfl
  | true =>
    unfold isNL at q
    simp only [Bool.or_eq_true, beq_iff_eq] at q
    rcases q with (rfl | rfl) | rfl <;> simp [cont, strt, isDg] at h
theorem ln_escs_nl {c d : Int} (h : escs c d = true) : isNL c = false ∧ isNL d = false := by
  unfold escs at h
  simp only [Bool.and_eq_true, beq_iff_eq, Bool.not_eq_true'] at h
  exact ⟨by rw [h.1]; rfl, h.2⟩
theorem ln_pk1_tail (l : List Int) : pk l 1 = hd l.tail := by cases l <;> simp
theorem ln_nameF_hd (l : List Int) : nameF l = if cont (hd l) = true then (enc (hd l) ++ (nameF l.tail).1, (nameF l.tail).2)
    else if escs (hd l) (pk l 1) = true then (enc (escF l.tail).1 ++ (nameF (escF l.tail).2.1).1, (nameF (escF l.tail).2.1).2.1, (escF l.tail).2.2 || (nameF (escF l.tail).2.1).2.2)
    else ([], l, false) := by
  cases l with
  | nil => rw [nameF]; rfl
  | cons c t => rw [nameF]; simp only [hd_cons, List.tail_cons, pk_cons, pk_zero]
theorem ln_tail_lt0 {l : List Int} (h : l ≠ []) : l.tail.length < l.length := by
  cases l with
  | nil => exact absurd rfl h
  | cons c t => simp
theorem ln_hd_ne {l : List Int} (h : hd l ≠ -1) : l ≠ [] := by rintro rfl; exact h rfl
theorem ln_cont_ne {l : List Int} (h : cont (hd l) = true) : l ≠ [] := by rintro rfl; simp [cont, strt, isDg] at h
theorem ln_escs_ne {l : List Int} {d : Int} (h : escs (hd l) d = true) : l ≠ [] := by rintro rfl; simp [escs] at h
theorem Ln.name {a b : List Int} (h : Ln a b) : (nameF a).1 = (nameF b).1 ∧ Ln (nameF a).2.1 (nameF b).2.1 ∧ (nameF a).2.2 = (nameF b).2.2 ∧ ((nameF a).2.2 = false → LD a (nameF a).2.1 b (nameF b).2.1) := by
  induction hn : a.length using Nat.strongRecOn generalizing a b with
  | _ n ih =>
    rw [ln_nameF_hd a, ln_nameF_hd b, ← h.one cont (by decide) (by decide), ← h.pescs]
    by_cases hc : cont (hd a) = true
    · rw [if_pos hc, if_pos hc]
      have hnl := ln_cont_nl hc
      have hlt := ln_tail_lt0 (ln_cont_ne hc)
      obtain ⟨i1, i2, i3, i4⟩ := ih a.tail.length (by omega) (h.tl hnl) rfl
      refine ⟨?_, i2, i3, fun e => (LD.tl h hnl).trans (i4 e)⟩
      simp only
      rw [i1, h.hdeq hnl]
    · rw [if_neg hc, if_neg hc]
      by_cases he : escs (hd a) (pk a 1) = true
      · rw [if_pos he, if_pos he]
        obtain ⟨n1, n2⟩ := ln_escs_nl he
        rw [ln_pk1_tail] at n2
        have hlt := ln_tail_lt0 (ln_escs_ne he)
        have ht := h.tl n1
        have e1 := ht.esc n2
        have hle := escF_le a.tail
        obtain ⟨i1, i2, i3, i4⟩ := ih (escF a.tail).2.1.length (by omega) e1.2.1 rfl
        refine ⟨?_, i2, ?_, ?_⟩
        · simp only; rw [i1, e1.1]
        · simp only; rw [i3, e1.2.2]
        · simp only [Bool.or_eq_false_iff]
          exact fun e => ((LD.tl h n1).trans (LD.esc ht n2 e.1)).trans (i4 e.2)
      · rw [if_neg he, if_neg he]
        exact ⟨rfl, h, rfl, fun _ => LD.refl _ _⟩
theorem Ln.close {a b : List Int} (h : Ln a b) : (closeF a = none ∧ closeF b = none) ∨ ∃ x y, closeF a = some x ∧ closeF b = some y ∧ Ln x y := by
  induction h with
  | nil => exact .inl ⟨rfl, rfl⟩
  | @cons c a b hc h ih =>
    simp only [closeF]
    by_cases q : c = 42 ∧ hd a = 47
    · have q2 : c = 42 ∧ hd b = 47 := ⟨q.1, (h.eqc 47 (by decide)).1 q.2⟩
      rw [if_pos q, if_pos q2]
      exact .inr ⟨_, _, rfl, rfl, h.tl (by rw [q.2]; rfl)⟩
    · have q2 : ¬ (c = 42 ∧ hd b = 47) := fun e => q ⟨e.1, (h.eqc 47 (by decide)).2 e.2⟩
      rw [if_neg q, if_neg q2]
      exact ih
  | lf h ih => simpa [closeF] using ih
  | ff h ih => simpa [closeF] using ih
  | cr h ih => simpa [closeF] using ih
theorem Ln.two_eq {a b : List Int} (h : Ln a b) {c d : Int} (hc : isNL c = false) (hd' : isNL d = false) : (hd a = c ∧ pk a 1 = d) ↔ (hd b = c ∧ pk b 1 = d) := by
  constructor
  · rintro ⟨e1, e2⟩
    have ht := h.tl (by rw [e1]; exact hc)
    rw [ln_pk1_tail] at e2 ⊢
    exact ⟨(h.eqc c hc).1 e1, (ht.eqc d hd').1 e2⟩
  · rintro ⟨e1, e2⟩
    have e3 := (h.eqc c hc).2 e1
    have ht := h.tl (by rw [e3]; exact hc)
    rw [ln_pk1_tail] at e2 ⊢
    exact ⟨e3, (ht.eqc d hd').2 e2⟩
theorem ln_drop2_tail (l : List Int) : l.drop 2 = l.tail.tail := by cases l with
  | nil => rfl
  | cons c t => cases t <;> rfl
theorem Ln.cmts {a b : List Int} (h : Ln a b) : Ln (cmtsF a).1 (cmtsF b).1 ∧ (cmtsF a).2 = (cmtsF b).2 := by
  induction hn : a.length using Nat.strongRecOn generalizing a b with
  | _ n ih =>
    by_cases q : hd a = 47 ∧ pk a 1 = 42
    · have q2 := (h.two_eq (c := 47) (d := 42) (by decide) (by decide)).1 q
      have ht := h.tl (by rw [q.1]; rfl)
      have ht2 := ht.tl (by rw [← ln_pk1_tail, q.2]; rfl)
      rcases ht2.close with ⟨c1, c2⟩ | ⟨x, y, c1, c2, hxy⟩
      · rw [← ln_drop2_tail] at c1 c2
        rw [cmtsF_none q c1, cmtsF_none q2 c2]
        exact ⟨.nil, rfl⟩
      · rw [← ln_drop2_tail] at c1 c2
        have hlt := closeF_le c1
        simp only [List.length_drop] at hlt
        rw [cmtsF_some q c1, cmtsF_some q2 c2]
        exact ih x.length (by omega) hxy rfl
    · have q2 : ¬ (hd b = 47 ∧ pk b 1 = 42) := fun e => q ((h.two_eq (c := 47) (d := 42) (by decide) (by decide)).2 e)
      rw [cmtsF_stop q, cmtsF_stop q2]
      exact ⟨h, rfl⟩
/-- The same token but for its unit. -/
def TE (t u : Tok) : Prop := t.kind = u.kind ∧ t.id = u.id ∧ t.text = u.text
theorem TE.refl (t : Tok) : TE t t := ⟨rfl, rfl, rfl⟩
theorem Ln.num1 {a b : List Int} (h : Ln a b) : Ln (num1 a) (num1 b) := by
  unfold Proofs.YtedckphklebndaaGreatDoor.num1
  by_cases q : hd a = 43 ∨ hd a = 45
  · have q2 : hd b = 43 ∨ hd b = 45 := q.imp (h.eqc 43 (by decide)).1 (h.eqc 45 (by decide)).1
    rw [if_pos q, if_pos q2]
    exact h.tl (by rcases q with e | e <;> rw [e] <;> rfl)
  · have q2 : ¬ (hd b = 43 ∨ hd b = 45) := fun e => q (e.imp (h.eqc 43 (by decide)).2 (h.eqc 45 (by decide)).2)
    rw [if_neg q, if_neg q2]
    exact h
theorem Ln.num2 {a b : List Int} (h : Ln a b) : Ln (num2 a) (num2 b) := h.num1.digit
theorem Ln.pkdg {a b : List Int} (h : Ln a b) (hn : isNL (hd a) = false) : isDg (pk a 1) = isDg (pk b 1) := by
  rw [ln_pk1_tail, ln_pk1_tail]; exact (h.tl hn).one isDg (by decide) (by decide)
theorem Ln.num3 {a b : List Int} (h : Ln a b) : Ln (num3 a) (num3 b) := by
  have h2 := h.num2
  unfold Proofs.YtedckphklebndaaGreatDoor.num3
  by_cases q : hd (Proofs.YtedckphklebndaaGreatDoor.num2 a) = 46 ∧ isDg (pk (Proofs.YtedckphklebndaaGreatDoor.num2 a) 1) = true
  · have hnl : isNL (hd (Proofs.YtedckphklebndaaGreatDoor.num2 a)) = false := by rw [q.1]; rfl
    rw [if_pos q, if_pos ⟨(h2.eqc 46 (by decide)).1 q.1, by rw [← h2.pkdg hnl]; exact q.2⟩]
    exact (h2.tl hnl).digit
  · rw [if_neg q, if_neg]
    · exact h2
    · rintro ⟨e1, e2⟩
      have e3 := (h2.eqc 46 (by decide)).2 e1
      exact q ⟨e3, by rw [h2.pkdg (by rw [e3]; rfl)]; exact e2⟩
theorem Ln.expo {a b : List Int} (h : Ln a b) : expo a = expo b := by
  refine h.three (fun x y z => (x == 101 || x == 69) && (isDg y || (y == 43 || y == 45) && isDg z)) ?_ ?_ ?_ ?_ ?_ ?_ ?_ ?_ <;> intros <;> simp [isDg]
theorem ln_expo_nl {a : List Int} (h : expo a = true) : isNL (hd a) = false ∧ isNL (hd a.tail) = false := by
  unfold expo at h
  rw [ln_pk1_tail] at h
  simp only [Bool.and_eq_true, Bool.or_eq_true, beq_iff_eq] at h
  refine ⟨by rcases h.1 with e | e <;> rw [e] <;> rfl, ?_⟩
  rcases h.2 with e | e
  · exact ln_cont_nl (by unfold cont; rw [e]; simp)
  · rcases e.1 with e | e <;> rw [e] <;> rfl
theorem Ln.num4 {a b : List Int} (h : Ln a b) : Ln (num4 a) (num4 b) := by
  have h3 := h.num3
  unfold Proofs.YtedckphklebndaaGreatDoor.num4
  rw [← h3.expo]
  split
  · rename_i e
    obtain ⟨n1, n2⟩ := ln_expo_nl e
    rw [ln_drop2_tail, ln_drop2_tail]
    exact ((h3.tl n1).tl n2).digit
  · exact h3
theorem Ln.numO {a b : List Int} (h : Ln a b) : numO a = numO b := by
  refine h.num2.two (fun x y => x == 46 && !isDg y) ?_ ?_ ?_ ?_ ?_ <;> intros <;> simp [isDg]
theorem Ln.numF {a b : List Int} (h : Ln a b) : TE (numF a).1 (numF b).1 ∧ Ln (numF a).2.1 (numF b).2.1 ∧ (numF a).2.2 = (numF b).2.2 := by
  have h4 := h.num4
  unfold Proofs.YtedckphklebndaaGreatDoor.numF
  rw [pk_zero, pk_zero, ← h4.pidnt, ← h.numO]
  split
  · have hn := h4.name
    exact ⟨⟨rfl, rfl, rfl⟩, hn.2.1, by simp only; rw [hn.2.2.1]⟩
  · by_cases q : hd (Proofs.YtedckphklebndaaGreatDoor.num4 a) = 37
    · rw [if_pos q, if_pos ((h4.eqc 37 (by decide)).1 q)]
      exact ⟨TE.refl _, h4.tl (by rw [q]; rfl), rfl⟩
    · rw [if_neg q, if_neg (fun e => q ((h4.eqc 37 (by decide)).2 e))]
      exact ⟨TE.refl _, h4, rfl⟩
theorem ln_badF_hd (l : List Int) : badF l = if l = [] then ([], true) else if hd l = 41 then (l.tail, false)
    else if escs (hd l) (pk l 1) = true then ((badF (escF l.tail).2.1).1, true) else badF l.tail := by
  cases l with
  | nil => rw [badF]; rfl
  | cons c t => rw [badF]; simp
theorem Ln.bad {a b : List Int} (h : Ln a b) : Ln (badF a).1 (badF b).1 ∧ (badF a).2 = (badF b).2 := by
  induction hn : a.length using Nat.strongRecOn generalizing a b with
  | _ n ih =>
    by_cases hnl : isNL (hd a) = true
    · have key : ∀ c t, isNL c = true → badF (c :: t) = badF t := by
        intro c t hc
        rw [badF, if_neg (by rintro rfl; cases hc), if_neg]
        intro e
        rw [(ln_escs_nl e).1] at hc
        cases hc
      cases h with
      | nil => simp [isNL] at hnl
      | cons hc _ => simp only [hd_cons] at hnl; rw [hc] at hnl; cases hnl
      | @lf a b h => rw [key 10 a rfl, key 10 b rfl]; exact ih a.length (by simp only [List.length_cons] at hn; omega) h rfl
      | @ff a b h => rw [key 10 a rfl, key 12 b rfl]; exact ih a.length (by simp only [List.length_cons] at hn; omega) h rfl
      | @cr a b h => rw [key 10 a rfl, key 13 _ rfl, key 10 b rfl]; exact ih a.length (by simp only [List.length_cons] at hn; omega) h rfl
    · have hnl : isNL (hd a) = false := by simpa using hnl
      rw [ln_badF_hd a, ln_badF_hd b]
      by_cases q0 : a = []
      · rw [if_pos q0, if_pos (h.nileq.1 q0)]; exact ⟨.nil, rfl⟩
      · rw [if_neg q0, if_neg (fun e => q0 (h.nileq.2 e))]
        have hlt := ln_tail_lt0 q0
        have ht := h.tl hnl
        by_cases q1 : hd a = 41
        · rw [if_pos q1, if_pos ((h.eqc 41 (by decide)).1 q1)]; exact ⟨ht, rfl⟩
        · rw [if_neg q1, if_neg (fun e => q1 ((h.eqc 41 (by decide)).2 e)), ← h.pescs]
          split
          · rename_i e
            have n2 := (ln_escs_nl e).2
            rw [ln_pk1_tail] at n2
            have hle := escF_le a.tail
            exact ⟨(ih _ (by omega) (ht.esc n2).2.1 rfl).1, rfl⟩
          · exact ih _ (by omega) ht rfl
theorem ln_urlF_hd (out : List UInt8) (l : List Int) : urlF out l = if l = [] then ({ kind := 37, text := out }, [], true)
    else if hd l = 41 then ({ kind := 37, text := out }, l.tail, false)
    else if isSp (hd l) = true then
      if spaceF l = [] then ({ kind := 37, text := out }, [], true)
      else if hd (spaceF l) = 41 then ({ kind := 37, text := out }, (spaceF l).tail, false)
      else ({ kind := 3 }, (badF (spaceF l)).1, (badF (spaceF l)).2)
    else if hd l = 34 ∨ hd l = 39 ∨ hd l = 40 ∨ unpr (hd l) = true ∨ (hd l = 92 ∧ isNL (pk l 1) = true) then ({ kind := 3 }, (badF l).1, (badF l).2)
    else if hd l = 92 then ((urlF (out ++ enc (escF l.tail).1) (escF l.tail).2.1).1, (urlF (out ++ enc (escF l.tail).1) (escF l.tail).2.1).2.1, (escF l.tail).2.2 || (urlF (out ++ enc (escF l.tail).1) (escF l.tail).2.1).2.2)
    else urlF (out ++ enc (hd l)) l.tail := by
  cases l with
  | nil => rw [urlF, if_pos rfl]
  | cons c t =>
    rw [urlF, if_neg (show ¬ (c :: t = []) by simp)]
    simp only [hd_cons, List.tail_cons, pk_cons, pk_zero]
    by_cases q : isSp c = true
    · have e : spaceF (c :: t) = spaceF t := by unfold spaceF; rw [List.dropWhile_cons_of_pos q]
      rw [e]
      rfl
    · rw [if_neg q, if_neg q]
      rfl
theorem Ln.url {a b : List Int} (h : Ln a b) : ∀ out, (urlF out a).1 = (urlF out b).1 ∧ Ln (urlF out a).2.1 (urlF out b).2.1 ∧ (urlF out a).2.2 = (urlF out b).2.2 := by
  induction hn : a.length using Nat.strongRecOn generalizing a b with
  | _ n ih =>
    intro out
    rw [ln_urlF_hd out a, ln_urlF_hd out b]
    by_cases q0 : a = []
    · rw [if_pos q0, if_pos (h.nileq.1 q0)]; exact ⟨rfl, .nil, rfl⟩
    · rw [if_neg q0, if_neg (fun e => q0 (h.nileq.2 e))]
      have hlt := ln_tail_lt0 q0
      by_cases q1 : hd a = 41
      · rw [if_pos q1, if_pos ((h.eqc 41 (by decide)).1 q1)]; exact ⟨rfl, h.tl (by rw [q1]; rfl), rfl⟩
      · rw [if_neg q1, if_neg (fun e => q1 ((h.eqc 41 (by decide)).2 e)), ← h.one isSp (by decide) (by decide)]
        by_cases q2 : isSp (hd a) = true
        · rw [if_pos q2, if_pos q2]
          have hs := h.space
          by_cases q3 : spaceF a = []
          · rw [if_pos q3, if_pos (hs.nileq.1 q3)]; exact ⟨rfl, .nil, rfl⟩
          · rw [if_neg q3, if_neg (fun e => q3 (hs.nileq.2 e))]
            by_cases q4 : hd (spaceF a) = 41
            · rw [if_pos q4, if_pos ((hs.eqc 41 (by decide)).1 q4)]; exact ⟨rfl, hs.tl (by rw [q4]; rfl), rfl⟩
            · rw [if_neg q4, if_neg (fun e => q4 ((hs.eqc 41 (by decide)).2 e))]
              exact ⟨rfl, hs.bad.1, hs.bad.2⟩
        · rw [if_neg q2, if_neg q2]
          have hnl : isNL (hd a) = false := by
            cases q : isNL (hd a) with
            | false => rfl
            | true => exact absurd (by unfold isSp; rw [q]; rfl) q2
          have he := h.hdeq hnl
          have ht := h.tl hnl
          rw [← he, ln_pk1_tail, ln_pk1_tail, ← ht.nl]
          by_cases q3 : hd a = 34 ∨ hd a = 39 ∨ hd a = 40 ∨ unpr (hd a) = true ∨ (hd a = 92 ∧ isNL (hd a.tail) = true)
          · rw [if_pos q3, if_pos q3]; exact ⟨rfl, h.bad.1, h.bad.2⟩
          · rw [if_neg q3, if_neg q3]
            by_cases q4 : hd a = 92
            · rw [if_pos q4, if_pos q4]
              have n2 : isNL (hd a.tail) = false := by
                cases q : isNL (hd a.tail) with
                | false => rfl
                | true => exact absurd (.inr (.inr (.inr (.inr ⟨q4, q⟩)))) q3
              have e1 := ht.esc n2
              have hle := escF_le a.tail
              have hi := ih (escF a.tail).2.1.length (by omega) e1.2.1 rfl (out ++ enc (escF a.tail).1)
              refine ⟨?_, ?_, ?_⟩
              · simp only; rw [hi.1, e1.1]
              · simp only; rw [← e1.1]; exact hi.2.1
              · simp only; rw [hi.2.2, e1.1, e1.2.2]
            · rw [if_neg q4, if_neg q4]
              exact ih a.tail.length (by omega) ht rfl _
theorem Ln.named {a b : List Int} (h : Ln a b) : (namedF a).1 = (namedF b).1 ∧ Ln (namedF a).2.1 (namedF b).2.1 ∧ (namedF a).2.2 = (namedF b).2.2 := by
  obtain ⟨n1, n2, n3, n4⟩ := h.name
  unfold namedF
  by_cases q : hd (nameF a).2.1 = 40
  · rw [if_pos q, if_pos ((n2.eqc 40 (by decide)).1 q), ← n1]
    have ht := n2.tl (by rw [q]; rfl)
    have hs := ht.space
    by_cases q2 : isUrl (nameF a).1 = true ∧ hd (spaceF (nameF a).2.1.tail) ≠ 34 ∧ hd (spaceF (nameF a).2.1.tail) ≠ 39
    · have q3 : isUrl (nameF a).1 = true ∧ hd (spaceF (nameF b).2.1.tail) ≠ 34 ∧ hd (spaceF (nameF b).2.1.tail) ≠ 39 :=
        ⟨q2.1, fun e => q2.2.1 ((hs.eqc 34 (by decide)).2 e), fun e => q2.2.2 ((hs.eqc 39 (by decide)).2 e)⟩
      rw [if_pos q2, if_pos q3]
      obtain ⟨u1, u2, u3⟩ := hs.url []
      refine ⟨u1, u2, ?_⟩
      simp only
      rw [u1, u3, ← n3]
      cases hx : (nameF a).2.2 with
      | true => simp
      | false =>
        have hd' := n4 hx
        unfold LD at hd'
        have e : ((encs a).length == (encs (nameF a).2.1).length + 3) = ((encs b).length == (encs (nameF b).2.1).length + 3) := by
          by_cases z : (encs a).length = (encs (nameF a).2.1).length + 3
          · rw [beq_iff_eq.2 z, beq_iff_eq.2 (by omega)]
          · rw [beq_eq_false_iff_ne.2 z, beq_eq_false_iff_ne.2 (by omega)]
        rw [e]
    · have q3 : ¬ (isUrl (nameF a).1 = true ∧ hd (spaceF (nameF b).2.1.tail) ≠ 34 ∧ hd (spaceF (nameF b).2.1.tail) ≠ 39) :=
        fun e => q2 ⟨e.1, fun z => e.2.1 ((hs.eqc 34 (by decide)).1 z), fun z => e.2.2 ((hs.eqc 39 (by decide)).1 z)⟩
      rw [if_neg q2, if_neg q3]
      exact ⟨rfl, ht, n3⟩
  · rw [if_neg q, if_neg (fun e => q ((n2.eqc 40 (by decide)).2 e)), ← n1]
    exact ⟨rfl, n2, n3⟩
theorem ln_quotF_hd (q : Int) (out : List UInt8) (l : List Int) : quotF q out l = if l = [] then ({ kind := 36, text := out }, [], true)
    else if hd l = q then ({ kind := 36, text := out }, l.tail, false)
    else if isNL (hd l) = true then ({ kind := 2 }, l, false)
    else if hd l = 92 then
      if isNL (hd l.tail) = true then quotF q out (nlTake l.tail)
      else if l.tail = [] then ({ kind := 36, text := out }, [], true)
      else ((quotF q (out ++ enc (escF l.tail).1) (escF l.tail).2.1).1, (quotF q (out ++ enc (escF l.tail).1) (escF l.tail).2.1).2.1, (escF l.tail).2.2 || (quotF q (out ++ enc (escF l.tail).1) (escF l.tail).2.1).2.2)
    else quotF q (out ++ enc (hd l)) l.tail := by
  cases l with
  | nil => rw [quotF, if_pos rfl]
  | cons c t => rw [quotF, if_neg (show ¬ (c :: t = []) by simp)]; simp only [hd_cons, List.tail_cons]; rfl
theorem Ln.quot {a b : List Int} (q : Int) (hq : isNL q = false) (h : Ln a b) : ∀ out, (quotF q out a).1 = (quotF q out b).1 ∧ Ln (quotF q out a).2.1 (quotF q out b).2.1 ∧ (quotF q out a).2.2 = (quotF q out b).2.2 := by
  induction hn : a.length using Nat.strongRecOn generalizing a b with
  | _ n ih =>
    intro out
    rw [ln_quotF_hd q out a, ln_quotF_hd q out b]
    by_cases q0 : a = []
    · rw [if_pos q0, if_pos (h.nileq.1 q0)]; exact ⟨rfl, .nil, rfl⟩
    · rw [if_neg q0, if_neg (fun e => q0 (h.nileq.2 e))]
      have hlt := ln_tail_lt0 q0
      by_cases q1 : hd a = q
      · rw [if_pos q1, if_pos ((h.eqc q hq).1 q1)]; exact ⟨rfl, h.tl (by rw [q1]; exact hq), rfl⟩
      · rw [if_neg q1, if_neg (fun e => q1 ((h.eqc q hq).2 e)), ← h.nl]
        by_cases q2 : isNL (hd a) = true
        · rw [if_pos q2, if_pos q2]; exact ⟨rfl, h, rfl⟩
        · rw [if_neg q2, if_neg q2]
          have hnl : isNL (hd a) = false := by simpa using q2
          have he := h.hdeq hnl
          have ht := h.tl hnl
          rw [← he, ← ht.nl]
          by_cases q4 : hd a = 92
          · rw [if_pos q4, if_pos q4]
            by_cases q5 : isNL (hd a.tail) = true
            · rw [if_pos q5, if_pos q5]
              have hle := nlTake_le a.tail
              exact ih _ (by omega) (ht.take q5) rfl out
            · rw [if_neg q5, if_neg q5]
              by_cases q6 : a.tail = []
              · rw [if_pos q6, if_pos (ht.nileq.1 q6)]; exact ⟨rfl, .nil, rfl⟩
              · rw [if_neg q6, if_neg (fun e => q6 (ht.nileq.2 e))]
                have e1 := ht.esc (by simpa using q5)
                have hle := escF_le a.tail
                have hi := ih (escF a.tail).2.1.length (by omega) e1.2.1 rfl (out ++ enc (escF a.tail).1)
                refine ⟨?_, ?_, ?_⟩
                · simp only; rw [hi.1, e1.1]
                · simp only; rw [← e1.1]; exact hi.2.1
                · simp only; rw [hi.2.2, e1.1, e1.2.2]
          · rw [if_neg q4, if_neg q4]
            exact ih a.tail.length (by omega) ht rfl _
theorem ln_drop_tail' (l : List Int) (n : Nat) : l.drop (n + 1) = l.tail.drop n := by cases l <;> simp
theorem ln_drop3_tail (l : List Int) : l.drop 3 = l.tail.tail.tail := by rw [ln_drop_tail', ln_drop_tail', ln_drop_tail', List.drop_zero]
theorem ln_drop4_tail (l : List Int) : l.drop 4 = l.tail.tail.tail.tail := by rw [ln_drop_tail', ln_drop_tail', ln_drop_tail', ln_drop_tail', List.drop_zero]
theorem ln_pk_tl (l : List Int) (k : Nat) : pk l (k + 1) = pk l.tail k := by cases l <;> simp
theorem Ln.next {a b : List Int} (h : Ln a b) : TE (nextF a).1 (nextF b).1 ∧ Ln (nextF a).2.1 (nextF b).2.1 ∧ (nextF a).2.2 = (nextF b).2.2 := by
  unfold nextF
  by_cases q0 : a = []
  · rw [if_pos q0, if_pos (h.nileq.1 q0)]; exact ⟨TE.refl _, .nil, rfl⟩
  rw [if_neg q0, if_neg (fun e => q0 (h.nileq.2 e)), ← h.one isSp (by decide) (by decide)]
  by_cases q1 : isSp (hd a) = true
  · rw [if_pos q1, if_pos q1]; exact ⟨TE.refl _, h.space, rfl⟩
  rw [if_neg q1, if_neg q1]
  have hnl : isNL (hd a) = false := by
    cases q : isNL (hd a) with
    | false => rfl
    | true => exact absurd (by unfold isSp; rw [q]; rfl) q1
  have he := h.hdeq hnl
  have ht := h.tl hnl
  rw [pk_zero, pk_zero, ← h.pcnts, ← h.pidnt, ← he]
  by_cases q2 : hd a = 34 ∨ hd a = 39
  · rw [if_pos q2, if_pos q2]
    have := ht.quot (hd a) hnl []
    exact ⟨by rw [this.1]; exact TE.refl _, this.2⟩
  rw [if_neg q2, if_neg q2]
  have e1 : cont (pk a 1) = cont (pk b 1) := by rw [ln_pk1_tail, ln_pk1_tail]; exact ht.one cont (by decide) (by decide)
  have e2 : escs (pk a 1) (pk a 2) = escs (pk b 1) (pk b 2) := by
    rw [ln_pk_tl a 1, ln_pk_tl b 1, ln_pk1_tail a, ln_pk1_tail b]; exact ht.pescs
  have e3 : idnt (pk a 1) (pk a 2) (pk a 3) = idnt (pk b 1) (pk b 2) (pk b 3) := by
    rw [ln_pk_tl a 1, ln_pk_tl b 1, ln_pk_tl a 2, ln_pk_tl b 2, ln_pk1_tail a, ln_pk1_tail b]; exact ht.pidnt
  rw [← e1, ← e2, ← e3]
  have hm := ht.name
  by_cases q3 : hd a = 35 ∧ (cont (pk a 1) = true ∨ escs (pk a 1) (pk a 2) = true)
  · rw [if_pos q3, if_pos q3]
    exact ⟨⟨rfl, rfl, hm.1⟩, hm.2.1, hm.2.2.1⟩
  rw [if_neg q3, if_neg q3]
  by_cases q4 : cnts (hd a) (pk a 1) (pk a 2) = true
  · rw [if_pos q4, if_pos q4]; exact h.numF
  rw [if_neg q4, if_neg q4]
  have d3 : ∀ x y : Int, isNL x = false → isNL y = false → ((pk a 1 = x ∧ pk a 2 = y) ↔ (pk b 1 = x ∧ pk b 2 = y)) := by
    intro x y hx hy
    rw [ln_pk_tl a 1, ln_pk_tl b 1, ln_pk1_tail a, ln_pk1_tail b]
    exact ht.two_eq hx hy
  have q5i := d3 45 62 (by decide) (by decide)
  by_cases q5 : hd a = 45 ∧ pk a 1 = 45 ∧ pk a 2 = 62
  · rw [if_pos q5, if_pos ⟨q5.1, q5i.1 q5.2⟩]
    refine ⟨TE.refl _, ?_, rfl⟩
    have n2 : isNL (hd a.tail) = false := by rw [← ln_pk1_tail, q5.2.1]; rfl
    have n3 : isNL (hd a.tail.tail) = false := by rw [← ln_pk1_tail, ← ln_pk_tl a 1, q5.2.2]; rfl
    have := ((ht.tl n2).tl n3)
    rw [ln_drop3_tail, ln_drop3_tail]
    exact this
  have q5b : ¬ (hd a = 45 ∧ pk b 1 = 45 ∧ pk b 2 = 62) := fun e => q5 ⟨e.1, q5i.2 e.2⟩
  rw [if_neg q5, if_neg q5b]
  by_cases q6 : idnt (hd a) (pk a 1) (pk a 2) = true
  · rw [if_pos q6, if_pos q6]
    have := h.named
    exact ⟨by rw [this.1]; exact TE.refl _, this.2⟩
  rw [if_neg q6, if_neg q6]
  have q7i : (pk a 1 = 33 ∧ pk a 2 = 45 ∧ pk a 3 = 45) ↔ (pk b 1 = 33 ∧ pk b 2 = 45 ∧ pk b 3 = 45) := by
    constructor
    · rintro ⟨x1, x2, x3⟩
      have ⟨y1, y2⟩ := (d3 33 45 (by decide) (by decide)).1 ⟨x1, x2⟩
      refine ⟨y1, y2, ?_⟩
      have n2 : isNL (hd a.tail) = false := by rw [← ln_pk1_tail, x1]; rfl
      have n3 : isNL (hd a.tail.tail) = false := by rw [← ln_pk1_tail, ← ln_pk_tl a 1, x2]; rfl
      rw [ln_pk_tl a 2, ln_pk_tl a.tail 1, ln_pk1_tail a.tail.tail] at x3
      rw [ln_pk_tl b 2, ln_pk_tl b.tail 1, ln_pk1_tail b.tail.tail]
      exact (((ht.tl n2).tl n3).eqc 45 (by decide)).1 x3
    · rintro ⟨x1, x2, x3⟩
      have ⟨y1, y2⟩ := (d3 33 45 (by decide) (by decide)).2 ⟨x1, x2⟩
      refine ⟨y1, y2, ?_⟩
      have n2 : isNL (hd a.tail) = false := by rw [← ln_pk1_tail, y1]; rfl
      have n3 : isNL (hd a.tail.tail) = false := by rw [← ln_pk1_tail, ← ln_pk_tl a 1, y2]; rfl
      rw [ln_pk_tl b 2, ln_pk_tl b.tail 1, ln_pk1_tail b.tail.tail] at x3
      rw [ln_pk_tl a 2, ln_pk_tl a.tail 1, ln_pk1_tail a.tail.tail]
      exact (((ht.tl n2).tl n3).eqc 45 (by decide)).2 x3
  by_cases q7 : hd a = 60 ∧ pk a 1 = 33 ∧ pk a 2 = 45 ∧ pk a 3 = 45
  · rw [if_pos q7, if_pos ⟨q7.1, q7i.1 q7.2⟩]
    refine ⟨TE.refl _, ?_, rfl⟩
    have n2 : isNL (hd a.tail) = false := by rw [← ln_pk1_tail, q7.2.1]; rfl
    have n3 : isNL (hd a.tail.tail) = false := by rw [← ln_pk1_tail, ← ln_pk_tl a 1, q7.2.2.1]; rfl
    have n4 : isNL (hd a.tail.tail.tail) = false := by rw [← ln_pk1_tail, ← ln_pk_tl a.tail 1, ← ln_pk_tl a 2, q7.2.2.2]; rfl
    have := (((ht.tl n2).tl n3).tl n4)
    rw [ln_drop4_tail, ln_drop4_tail]
    exact this
  have q7b : ¬ (hd a = 60 ∧ pk b 1 = 33 ∧ pk b 2 = 45 ∧ pk b 3 = 45) := fun e => q7 ⟨e.1, q7i.2 e.2⟩
  rw [if_neg q7, if_neg q7b]
  by_cases q8 : hd a = 64 ∧ idnt (pk a 1) (pk a 2) (pk a 3) = true
  · rw [if_pos q8, if_pos q8]
    exact ⟨⟨rfl, rfl, hm.1⟩, hm.2.1, hm.2.2.1⟩
  rw [if_neg q8, if_neg q8]
  exact ⟨TE.refl _, ht, rfl⟩
theorem Ln.toks {a b : List Int} (h : Ln a b) : Fa2 (fun x y : Tok × List Int × List Int => TE x.1 y.1) (toks a).1 (toks b).1 ∧ (toks a).2 = (toks b).2 := by
  induction hn : a.length using Nat.strongRecOn generalizing a b with
  | _ n ih =>
    obtain ⟨c1, c2⟩ := h.cmts
    by_cases e : (cmtsF a).1 = []
    · rw [toks_nil e, toks_nil (c1.nileq.1 e)]
      exact ⟨.nil, c2⟩
    · have e2 : (cmtsF b).1 ≠ [] := fun q => e (c1.nileq.2 q)
      have h1 := nextF_lt e
      have h2 := cmtsF_le a
      obtain ⟨n1, n2, n3⟩ := c1.next
      have hi := ih _ (by omega) n2 rfl
      rw [toks_cons e, toks_cons e2]
      exact ⟨.cons n1 hi.1, by simp only; rw [c2, n3, hi.2]⟩
/-- What is compared, but for the unit. -/
def dropU (x : Ab) : Ab := { x with unit := 0 }
theorem Ln.view {a b : List Int} (h : Ln a b) : (Proofs.YtedckphklebndaaGreatDoor.view a).map dropU = (Proofs.YtedckphklebndaaGreatDoor.view b).map dropU := by
  unfold Proofs.YtedckphklebndaaGreatDoor.view
  rw [← mrg_map abW abW dropU (fun _ => rfl), ← mrg_map abW abW dropU (fun _ => rfl)]
  congr 1
  have hf := h.toks.1
  unfold abs_
  generalize (Proofs.YtedckphklebndaaGreatDoor.toks a).1 = x at hf
  generalize (Proofs.YtedckphklebndaaGreatDoor.toks b).1 = y at hf
  induction hf with
  | nil => rfl
  | cons hx _ ih =>
    simp only [List.map_cons]
    simp only [List.map_map] at ih ⊢
    rw [ih]
    congr 1
    obtain ⟨e1, e2, e3⟩ := hx
    simp only [dropU, ab, e1, e2, e3]
end Go.Proofs.YtedckphklebndaaGreatDoor
