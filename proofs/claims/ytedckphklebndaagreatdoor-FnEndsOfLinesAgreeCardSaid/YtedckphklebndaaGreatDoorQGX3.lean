/- The reference's lexer over lists of code points: a token read by itself is the same one (numbers, names, all). No condition; no program in sight. -/
import Derived.Test.YtedckphklebndaaGreatDoorQGS
namespace Go.Proofs.YtedckphklebndaaGreatDoor
open Go
theorem nameF_one {a : Int} {r : List Int} {o : List UInt8} (h : nameF (a :: r) = (o, r, false)) : cont a = true := by
  rw [nameF] at h
  by_cases hc : cont a = true
  · exact hc
  · rw [if_neg hc] at h
    exfalso
    split at h
    · simp only [Prod.mk.injEq, Bool.or_eq_false_iff] at h
      have h1 := nameF_le (escF r).2.1
      have h2 := escF_lt h.2.2.1
      rw [h.2.1] at h1
      omega
    · simp only [Prod.mk.injEq] at h
      have := congrArg List.length h.2.1
      simp at this
theorem nameF_two {a b : Int} {r : List Int} {o : List UInt8} (h : nameF (a :: b :: r) = (o, r, false)) (ha : cont a = true) : cont b = true := by
  rw [nameF, if_pos ha] at h
  simp only [Prod.mk.injEq] at h
  exact nameF_one (o := (nameF (b :: r)).1) (Prod.ext rfl h.2)
theorem cont_not {c : Int} (h : cont c = true) : c ≠ 92 := by rintro rfl; simp [cont, strt, isDg] at h
theorem escs_not {c : Int} (h : c ≠ 92) (d : Int) : escs c d = false := by unfold escs; rw [beq_eq_false_iff_ne.2 h]; rfl
theorem cont_strt {c : Int} (h : cont c = false) : strt c = false ∧ c ≠ 45 := by
  unfold cont at h
  simp only [Bool.or_eq_false_iff, beq_eq_false_iff_ne] at h
  exact ⟨h.1.1, h.2⟩
theorem idnt_cut {v r : List Int} {o : List UInt8} (hv : v ≠ []) (h : nameF (v ++ r) = (o, r, false)) : idnt (pk (v ++ r) 0) (pk (v ++ r) 1) (pk (v ++ r) 2) = idnt (pk v 0) (pk v 1) (pk v 2) := by
  have he := nameF_end v r o h
  rcases v with _ | ⟨a, _ | ⟨b, _ | ⟨c, v⟩⟩⟩
  · exact absurd rfl hv
  · have hc := nameF_one h
    have h92 := cont_not hc
    have hs := cont_strt he.1
    simp only [List.cons_append, List.nil_append, pk_cons, pk_zero, hd_cons, pk_nil, hd_nil]
    unfold idnt
    rw [hs.1, he.2, escs_not h92, escs_not h92, beq_eq_false_iff_ne.2 hs.2]
    rfl
  · simp only [List.cons_append, List.nil_append, pk_cons, pk_zero, hd_cons, hd_nil]
    unfold idnt
    by_cases ha : a = 45
    · subst ha
      have hb := cont_not (nameF_two h (by decide))
      rw [escs_not hb, escs_not hb]
    · rw [if_neg ha, if_neg ha]
  · simp [pk]
theorem cnts_mono {v r : List Int} (h : cnts (pk v 0) (pk v 1) (pk v 2) = true) : cnts (pk (v ++ r) 0) (pk (v ++ r) 1) (pk (v ++ r) 2) = true := by
  rcases v with _ | ⟨a, _ | ⟨b, _ | ⟨c, v⟩⟩⟩
  · simp [pk, cnts, isDg] at h
  · simp only [List.cons_append, List.nil_append, pk_cons, pk_zero, hd_cons, pk_nil, hd_nil] at h ⊢
    unfold cnts at h ⊢
    by_cases e : a = 43 ∨ a = 45
    · rw [if_pos e] at h; simp [isDg] at h
    · rw [if_neg e] at h ⊢
      have : isDg a = true := by simpa [isDg] using h
      rw [this]; rfl
  · simp only [List.cons_append, List.nil_append, pk_cons, pk_zero, hd_cons, hd_nil] at h ⊢
    unfold cnts at h ⊢
    by_cases e : a = 43 ∨ a = 45
    · rw [if_pos e] at h ⊢
      have : isDg b = true := by simpa [isDg] using h
      rw [this]; rfl
    · rw [if_neg e] at h ⊢; exact h
  · simpa [pk] using h
theorem expo_mono {v r : List Int} (h : expo v = true) : expo (v ++ r) = true := by
  rcases v with _ | ⟨a, _ | ⟨b, _ | ⟨c, v⟩⟩⟩
  · simp [pk, expo] at h
  · simp [pk, expo, isDg] at h
  · simp [pk, expo, isDg] at h ⊢
    omega
  · simpa [pk, expo] using h
theorem num3_suf2 (l : List Int) : num3 l <:+ num2 l := by
  unfold num3
  split
  · exact (digitF_suf _).trans (List.tail_suffix _)
  · exact List.suffix_refl _
theorem num4_suf3 (l : List Int) : num4 l <:+ num3 l := by
  unfold num4
  split
  · exact (digitF_suf _).trans (List.drop_suffix _ _)
  · exact List.suffix_refl _
theorem cut_of_suf {r v : List Int} (h : r <:+ v) : ∃ w, v = w ++ r := by obtain ⟨w, hw⟩ := h; exact ⟨w, hw.symm⟩
theorem len_app (w r : List Int) : (w ++ r).length = w.length + r.length := List.length_append
theorem num1_cut {u v r : List Int} (h : num1 (u ++ r) = v ++ r) : num1 u = v := by
  unfold num1 at h ⊢
  cases u with
  | nil =>
    rw [List.nil_append] at h
    have : v = [] := by
      apply app_self (r := r)
      rw [← h]
      split <;> simp
    rw [this, if_neg (by simp)]
  | cons c t =>
    rw [show hd (c :: t ++ r) = c from rfl, show (c :: t ++ r).tail = t ++ r from rfl] at h
    rw [hd_cons, List.tail_cons]
    by_cases e : c = 43 ∨ c = 45
    · rw [if_pos e, List.append_cancel_right_eq] at h; rw [if_pos e]; exact h
    · rw [if_neg e, List.append_cancel_right_eq] at h; rw [if_neg e]; exact h
theorem digitF_tail_lt {l : List Int} (h : isDg (hd l) = true) : (digitF l).length < l.length := digitF_lt h
theorem num_cut {u r : List Int} (hr : r <:+ num4 (u ++ r)) (ho : numO (u ++ r) = false) : num4 u ++ r = num4 (u ++ r) ∧ numO u = false := by
  obtain ⟨v4, e4⟩ := cut_of_suf hr
  obtain ⟨v3, e3⟩ := cut_of_suf (hr.trans (num4_suf3 _))
  obtain ⟨v2, e2⟩ := cut_of_suf ((hr.trans (num4_suf3 _)).trans (num3_suf2 _))
  obtain ⟨v1, e1⟩ := cut_of_suf (((hr.trans (num4_suf3 _)).trans (num3_suf2 _)).trans (digitF_suf (num1 (u ++ r))))
  have k1 := num1_cut e1
  have k2 : num2 u = v2 := by
    have : digitF (num1 (u ++ r)) = v2 ++ r := e2
    rw [e1] at this
    unfold num2
    rw [k1]
    exact drop_cut this
  have k3 : num3 u = v3 ∧ numO u = false := by
    unfold num3 at e3 ⊢
    unfold numO at ho ⊢
    rw [e2] at e3 ho
    rw [k2]
    by_cases q : hd (v2 ++ r) = 46
    · have q2 : isDg (pk (v2 ++ r) 1) = true := by
        rw [q] at ho; simpa using ho
      rw [if_pos ⟨q, q2⟩] at e3
      rcases v2 with _ | ⟨a, _ | ⟨b, v2⟩⟩
      · exfalso
        have h1 := digitF_len ([] ++ r).tail
        have h2 : r ≠ [] := by rintro rfl; simp at q
        have h3 : 0 < r.length := List.length_pos_iff.2 h2
        rw [e3, len_app, List.nil_append, List.length_tail] at h1
        omega
      · exfalso
        have h1 : (digitF r).length < r.length := digitF_lt (by simpa [pk] using q2)
        rw [show ([a] ++ r).tail = r from rfl] at e3
        rw [e3, len_app] at h1
        omega
      · have h1 : digitF (b :: v2 ++ r) = v3 ++ r := e3
        have qa : a = 46 := q
        have qb : isDg b = true := by simpa [pk] using q2
        refine ⟨?_, ?_⟩
        · rw [if_pos ⟨qa, by simpa [pk] using qb⟩]
          exact drop_cut h1
        · simp [pk, qb]
    · rw [if_neg (fun e => q e.1), List.append_cancel_right_eq] at e3
      have q' : ¬ hd v2 = 46 := by
        intro e
        cases v2 with
        | nil => simp at e
        | cons a v2 => exact q e
      rw [if_neg (fun e => q' e.1)]
      exact ⟨e3, by rw [beq_eq_false_iff_ne.2 q']; rfl⟩
  refine ⟨?_, k3.2⟩
  have k3 := k3.1
  rw [e4]
  congr 1
  unfold num4 at e4 ⊢
  rw [e3] at e4
  rw [k3]
  by_cases q : expo (v3 ++ r) = true
  · rw [if_pos q] at e4
    rcases v3 with _ | ⟨a, _ | ⟨b, v3⟩⟩
    · exfalso
      have h0 := expo_len q
      have h1 := digitF_len (([] ++ r).drop 2)
      rw [e4, len_app, List.nil_append, List.length_drop] at h1
      rw [List.nil_append] at h0
      omega
    · exfalso
      have h0 := expo_len q
      have h1 := digitF_len (([a] ++ r).drop 2)
      rw [e4, len_app, List.length_drop, len_app] at h1
      simp only [List.length_cons, List.length_nil, len_app] at h0 h1
      omega
    · have e5 : digitF (v3 ++ r) = v4 ++ r := e4
      have q3 : expo (a :: b :: v3) = true := by
        cases v3 with
        | nil =>
          have h2 : ¬ isDg (hd r) = true := by
            intro q5
            have := digitF_lt q5
            rw [List.nil_append] at e5
            rw [e5, len_app] at this
            omega
          have hq : isDg (hd r) = false := by simpa using h2
          simp only [expo, List.cons_append, List.nil_append, hd_cons, pk_cons, pk_zero, hq, Bool.and_false, Bool.or_false] at q
          simp only [expo, hd_cons, pk_cons, pk_zero]
          rw [Bool.and_eq_true] at q
          rw [q.1, q.2]; rfl
        | cons c v3 => simpa [expo, pk] using q
      rw [if_pos q3]
      exact drop_cut e5
  · have q3 : ¬ expo v3 = true := fun e => q (expo_mono e)
    rw [if_neg q, List.append_cancel_right_eq] at e4
    rw [if_neg q3]
    exact e4
theorem numF_cut {u r : List Int} {tok : Tok} (h : numF (u ++ r) = (tok, r, false)) : numF u = (tok, [], false) := by
  have ho : numO (u ++ r) = false := by
    unfold numF at h
    split at h
    · simp only [Prod.mk.injEq, Bool.or_eq_false_iff] at h; exact h.2.2.1
    · split at h
      · simp only [Prod.mk.injEq] at h; exact h.2.2
      · simp only [Prod.mk.injEq] at h; exact h.2.2
  have hr : r <:+ num4 (u ++ r) := by
    unfold numF at h
    split at h
    · simp only [Prod.mk.injEq] at h
      have := nameF_suf (num4 (u ++ r))
      rwa [h.2.1] at this
    · split at h
      · simp only [Prod.mk.injEq] at h
        have := List.tail_suffix (num4 (u ++ r))
        rwa [h.2.1] at this
      · simp only [Prod.mk.injEq] at h
        exact ⟨[], h.2.1.symm⟩
  obtain ⟨k, ko⟩ := num_cut hr ho
  unfold numF at h ⊢
  rw [← k] at h
  generalize num4 u = v at k h ⊢
  rw [ko]
  rw [ho] at h
  by_cases hi : idnt (pk (v ++ r) 0) (pk (v ++ r) 1) (pk (v ++ r) 2) = true
  · rw [if_pos hi] at h
    simp only [Prod.mk.injEq, Bool.false_or] at h
    have hn : nameF (v ++ r) = ((nameF (v ++ r)).1, r, false) := Prod.ext rfl (Prod.ext h.2.1 h.2.2)
    have hv : v ≠ [] := by
      rintro rfl
      have := nameF_lt (idnt_takes hi)
      rw [hn, List.nil_append] at this
      exact absurd this (Nat.lt_irrefl _)
    have hc := nameF_cut ST.nil v _ hn
    rw [List.append_nil] at hc
    rw [if_pos (by rw [← idnt_cut hv hn]; exact hi), hc, ← h.1]
    simp only [Bool.or_false, Prod.mk.injEq, and_true, Tok.mk.injEq, true_and]
    rw [encs_append, encs_append, List.length_append, List.length_append]
    omega
  · rw [if_neg hi] at h
    by_cases hp : hd (v ++ r) = 37
    · rw [if_pos hp] at h
      simp only [Prod.mk.injEq, and_true] at h
      rcases v with _ | ⟨a, v⟩
      · exfalso
        have h2 : r ≠ [] := by rintro rfl; simp at hp
        have h3 : 0 < r.length := List.length_pos_iff.2 h2
        have h1 := congrArg List.length h.2
        rw [List.nil_append, List.length_tail] at h1
        omega
      · have hv : v = [] := app_self (r := r) (by rw [show v ++ r = r from h.2]; exact Nat.le_refl _)
        subst hv
        have ha : a = 37 := hp
        subst ha
        rw [if_neg (by simp [pk, idnt, strt, escs]), if_pos (show hd [37] = 37 from rfl), ← h.1]; rfl
    · rw [if_neg hp] at h
      simp only [Prod.mk.injEq, and_true] at h
      have hv : v = [] := app_self (r := r) (by rw [h.2]; exact Nat.le_refl _)
      subst hv
      rw [if_neg (by simp [pk, idnt, strt, escs]), if_neg (by simp), ← h.1]
theorem num1_le (l : List Int) : (num1 l).length ≤ l.length := by unfold num1; split <;> simp
theorem numF_rest {l : List Int} : (numF l).2.1.length ≤ (num4 l).length := by
  have := nameF_le (num4 l)
  unfold numF
  split
  · exact this
  · split
    · simp only [List.length_tail]; omega
    · exact Nat.le_refl _
/-- A number's first signs are its own. -/
theorem cnts_cut {u r : List Int} (h : cnts (pk (u ++ r) 0) (pk (u ++ r) 1) (pk (u ++ r) 2) = true) (hr : r.length = (numF (u ++ r)).2.1.length) : cnts (pk u 0) (pk u 1) (pk u 2) = true := by
  have h4 := numF_rest (l := u ++ r)
  rw [← hr] at h4
  have hlt := num4_lt h
  have l43 := (num4_suf3 (u ++ r)).length_le
  have l32 := (num3_suf2 (u ++ r)).length_le
  rcases u with _ | ⟨a, _ | ⟨b, _ | ⟨c, u⟩⟩⟩
  · rw [List.nil_append] at hlt h4; omega
  · simp only [List.cons_append, List.nil_append, pk_cons, pk_zero, hd_cons, pk_nil, hd_nil] at h ⊢
    unfold cnts at h ⊢
    by_cases e : a = 43 ∨ a = 45
    · exfalso
      rw [if_pos e] at h
      have e1 : num1 ([a] ++ r) = r := by unfold num1; rw [if_pos (by simpa using e)]; rfl
      by_cases hd1 : isDg (hd r) = true
      · have : (num2 ([a] ++ r)).length < r.length := by unfold num2; rw [e1]; exact digitF_lt hd1
        omega
      · have hd2 : hd r = 46 ∧ isDg (pk r 1) = true := by
          cases q : isDg (hd r) with
          | true => exact absurd q hd1
          | false => rw [q] at h; simpa using h
        have e2 : num2 ([a] ++ r) = r := by
          unfold num2 digitF
          rw [e1]
          cases r with
          | nil => rfl
          | cons d t => simp only [hd_cons] at hd1; simp [hd1]
        have e3 : (num3 ([a] ++ r)).length < r.length := by
          unfold num3
          rw [e2, if_pos hd2]
          have := digitF_len r.tail
          cases r with
          | nil => simp at hd2
          | cons d t => simp only [List.tail_cons, List.length_cons] at *; omega
        omega
    · rw [if_neg e] at h ⊢
      cases q : isDg a with
      | true => rfl
      | false =>
        exfalso
        rw [q] at h
        have hh : a = 46 ∧ isDg (hd r) = true := by simpa using h
        have e1 : num1 ([a] ++ r) = [a] ++ r := by unfold num1; rw [if_neg (by simpa using e)]
        have e2 : num2 ([a] ++ r) = [a] ++ r := by unfold num2 digitF; rw [e1]; simp [q]
        have e3 : (num3 ([a] ++ r)).length < r.length := by
          unfold num3
          rw [e2, if_pos ⟨hh.1, by simpa [pk] using hh.2⟩]
          exact digitF_lt (l := r) hh.2
        omega
  · simp only [List.cons_append, List.nil_append, pk_cons, pk_zero, hd_cons, hd_nil] at h ⊢
    unfold cnts at h ⊢
    by_cases e : a = 43 ∨ a = 45
    · rw [if_pos e] at h ⊢
      cases q : isDg b with
      | true => rfl
      | false =>
        exfalso
        rw [q] at h
        have hh : b = 46 ∧ isDg (hd r) = true := by simpa using h
        have e1 : num1 ([a, b] ++ r) = [b] ++ r := by unfold num1; rw [if_pos (by simpa using e)]; rfl
        have e2 : num2 ([a, b] ++ r) = [b] ++ r := by unfold num2 digitF; rw [e1]; simp [q]
        have e3 : (num3 ([a, b] ++ r)).length < r.length := by
          unfold num3
          rw [e2, if_pos ⟨hh.1, by simpa [pk] using hh.2⟩]
          exact digitF_lt (l := r) hh.2
        omega
    · rw [if_neg e] at h ⊢; exact h
  · simpa [pk] using h
theorem namedF_cut {u r : List Int} {tok : Tok} (hx : ¬ (tok.kind = 27 ∧ isUrl tok.text = true)) (h : namedF (u ++ r) = (tok, r, false)) : namedF u = (tok, [], false) ∧ ∃ v w, u = v ++ w ∧ nameF (v ++ (w ++ r)) = ((nameF (u ++ r)).1, w ++ r, false) := by
  have hno : (nameF (u ++ r)).2.2 = false := by
    unfold namedF at h
    split at h
    · split at h
      · simp only [Prod.mk.injEq, Bool.or_eq_false_iff] at h; exact h.2.2.1.1.1
      · simp only [Prod.mk.injEq] at h; exact h.2.2
    · simp only [Prod.mk.injEq] at h; exact h.2.2
  have hsr : r <:+ (nameF (u ++ r)).2.1 := by
    unfold namedF at h
    split at h
    · split at h
      · simp only [Prod.mk.injEq] at h
        have h1 := urlF_suf (spaceF (nameF (u ++ r)).2.1.tail) []
        rw [h.2.1] at h1
        exact (h1.trans (spaceF_suf _)).trans (List.tail_suffix _)
      · simp only [Prod.mk.injEq] at h
        have := List.tail_suffix (nameF (u ++ r)).2.1
        rwa [h.2.1] at this
    · simp only [Prod.mk.injEq] at h
      exact ⟨[], h.2.1.symm⟩
  obtain ⟨w, hw⟩ := cut_of_suf hsr
  obtain ⟨v, hv⟩ : ∃ v, u = v ++ w := by
    obtain ⟨p, hp⟩ := nameF_suf (u ++ r)
    rw [hw, ← List.append_assoc, List.append_cancel_right_eq] at hp
    exact ⟨p, hp.symm⟩
  have hn : nameF (v ++ (w ++ r)) = ((nameF (u ++ r)).1, w ++ r, false) := by
    rw [← List.append_assoc, ← hv]
    exact Prod.ext rfl (Prod.ext hw hno)
  refine ⟨?_, v, w, hv, hn⟩
  have hun : nameF (u ++ r) = ((nameF (u ++ r)).1, w ++ r, false) := Prod.ext rfl (Prod.ext hw hno)
  unfold namedF at h ⊢
  rw [hun] at h
  simp only at h
  generalize (nameF (u ++ r)).1 = nm at h hn
  clear hun hno hsr hw
  by_cases hp : hd (w ++ r) = 40
  · rw [if_pos hp] at h
    have hw0 : w ≠ [] := by
      rintro rfl
      rw [List.nil_append] at h hp
      have hr : r ≠ [] := by rintro rfl; simp at hp
      have h3 : 0 < r.length := List.length_pos_iff.2 hr
      split at h
      · simp only [Prod.mk.injEq] at h
        have h1 := urlF_le (spaceF r.tail) []
        have h2 := spaceF_len r.tail
        rw [h.2.1] at h1
        rw [List.length_tail] at h2
        omega
      · simp only [Prod.mk.injEq] at h
        have h1 := congrArg List.length h.2.1
        rw [List.length_tail] at h1
        omega
    obtain ⟨d, y, rfl⟩ : ∃ d y, w = d :: y := by
      cases w with
      | nil => exact absurd rfl hw0
      | cons d y => exact ⟨d, y, rfl⟩
    have hd40 : d = 40 := hp
    subst hd40
    have hc := nameF_cut (ST.paren y) v nm hn
    rw [← hv] at hc
    rw [hc]
    simp only
    rw [if_pos (show hd (40 :: y) = 40 from rfl), List.tail_cons]
    rw [show (40 :: y ++ r).tail = y ++ r from rfl] at h
    by_cases hu : isUrl nm = true ∧ hd (spaceF (y ++ r)) ≠ 34 ∧ hd (spaceF (y ++ r)) ≠ 39
    · rw [if_pos hu] at h
      simp only [Prod.mk.injEq, Bool.or_eq_false_iff, Bool.false_or] at h
      have hs := urlF_suf (spaceF (y ++ r)) []
      rw [h.2.1] at hs
      obtain ⟨z, hz⟩ := cut_of_suf hs
      have hsp : spaceF y = z := drop_cut (p := isSp) hz
      have hU : urlF [] (z ++ r) = ((urlF [] (spaceF (y ++ r))).1, r, false) := by
        rw [← hz]
        exact Prod.ext rfl (Prod.ext h.2.1 h.2.2.1.1)
      have hz0 : z ≠ [] := by
        rintro rfl
        have := urlF_lt r [] (by rw [List.nil_append] at hU; rw [hU])
        rw [List.nil_append] at hU
        rw [hU] at this
        exact absurd this (Nat.lt_irrefl _)
      have hU2 := urlF_cut z [] hU
      rw [hz, ext_ne_nil hz0] at hu
      rw [hsp, if_pos hu, hU2]
      simp only [Prod.mk.injEq, Bool.or_eq_false_iff, Bool.false_or, true_and]
      refine ⟨h.1, ?_, ?_⟩
      · have e := h.2.2.1.2
        rw [← e]
        congr 1
        rw [encs_append, encs_append, List.length_append, List.length_append, Bool.eq_iff_iff, beq_iff_eq, beq_iff_eq]
        omega
      · exact h.2.2.2
    · rw [if_neg hu] at h
      simp only [Prod.mk.injEq] at h
      have hy : y = [] := app_self (r := r) (by rw [h.2.1]; exact Nat.le_refl _)
      subst hy
      have hnu : ¬ isUrl nm = true := fun e => hx (by rw [← h.1]; exact ⟨rfl, e⟩)
      rw [if_neg (fun e => hnu e.1), ← h.1]
  · rw [if_neg hp] at h
    simp only [Prod.mk.injEq] at h
    have hy : w = [] := app_self (r := r) (by rw [h.2.1]; exact Nat.le_refl _)
    subst hy
    rw [List.append_nil] at hv
    subst hv
    rw [List.nil_append] at hn
    have hc := nameF_cut ST.nil u nm hn
    rw [List.append_nil] at hc
    rw [hc]
    simp only
    rw [if_neg (by simp), ← h.1]
theorem idnt_named {u r : List Int} {tok : Tok} (hx : ¬ (tok.kind = 27 ∧ isUrl tok.text = true)) (h : namedF (u ++ r) = (tok, r, false)) (hi : idnt (pk (u ++ r) 0) (pk (u ++ r) 1) (pk (u ++ r) 2) = true) : idnt (pk u 0) (pk u 1) (pk u 2) = true := by
  obtain ⟨_, v, w, rfl, hn⟩ := namedF_cut hx h
  rw [List.append_assoc] at hi hn
  have hv : v ≠ [] := by
    rintro rfl
    have := nameF_lt (idnt_takes hi)
    rw [hn, List.nil_append] at this
    exact absurd this (Nat.lt_irrefl _)
  rw [idnt_cut hv hn] at hi
  have he := nameF_end v (w ++ r) _ hn
  -- what stands behind the name does not matter
  rcases v with _ | ⟨a, _ | ⟨b, _ | ⟨c, v⟩⟩⟩
  · exact absurd rfl hv
  · have hc := nameF_one hn
    have h92 := cont_not hc
    simp only [pk_cons, pk_zero, hd_cons, pk_nil, hd_nil] at hi
    simp only [List.cons_append, List.nil_append, pk_cons, pk_zero, hd_cons]
    unfold idnt at hi ⊢
    by_cases ha : a = 45
    · rw [if_pos ha] at hi; simp [strt, escs] at hi
    · rw [if_neg ha, escs_not h92] at hi
      rw [if_neg ha, escs_not h92]
      exact hi
  · simp only [pk_cons, pk_zero, hd_cons, hd_nil] at hi
    simp only [List.cons_append, List.nil_append, pk_cons, pk_zero, hd_cons]
    unfold idnt at hi ⊢
    by_cases ha : a = 45
    · subst ha
      have hb := cont_not (nameF_two hn (by decide))
      rw [escs_not hb] at hi ⊢
      exact hi
    · rw [if_neg ha] at hi ⊢
      exact hi
  · simpa [pk] using hi
theorem hash_cut {u r : List Int} {o : List UInt8} (h : nameF (u ++ r) = (o, r, false)) (hu : u ≠ []) (hc : cont (hd (u ++ r)) = true ∨ escs (hd (u ++ r)) (pk (u ++ r) 1) = true) : cont (hd u) = true ∨ escs (hd u) (pk u 1) = true := by
  rw [ext_ne_nil hu] at hc
  rcases hc with hc | hc
  · exact .inl hc
  · rcases u with _ | ⟨a, _ | ⟨b, u⟩⟩
    · exact absurd rfl hu
    · exact .inl (nameF_one h)
    · right; simpa [pk] using hc
theorem quotF_k (q : Int) (l : List Int) : ∀ out, (quotF q out l).1.kind = 36 ∨ (quotF q out l).1.kind = 2 := by
  induction hn : l.length using Nat.strongRecOn generalizing l with
  | _ n ih =>
    intro out
    cases l with
    | nil => rw [quotF]; exact .inl rfl
    | cons c t =>
      have e3 := escF_le t
      have e4 := nlTake_le t
      simp only [List.length_cons] at hn
      rw [quotF]
      split
      · exact .inl rfl
      · split
        · exact .inr rfl
        · split
          · split
            · exact ih (nlTake t).length (by omega) _ rfl out
            · split
              · exact .inl rfl
              · exact ih (escF t).2.1.length (by omega) _ rfl (out ++ enc (escF t).1)
          · exact ih t.length (by omega) t rfl (out ++ enc c)
/-- A token, read by itself. -/
theorem nextF_cut {u r : List Int} {tok : Tok} (hu : u ≠ []) (h : nextF (u ++ r) = (tok, r, false)) (h2 : tok.kind ≠ 2) (h92 : u ≠ [92]) (hx : ¬ (tok.kind = 27 ∧ isUrl tok.text = true)) : nextF u = (tok, [], false) := by
  have hne : u ++ r ≠ [] := fun e => hu (List.append_eq_nil_iff.1 e).1
  obtain ⟨c, t, rfl⟩ : ∃ c t, u = c :: t := by
    cases u with
    | nil => exact absurd rfl hu
    | cons c t => exact ⟨c, t, rfl⟩
  have ht : (c :: t ++ r).tail = t ++ r := rfl
  have hp0 : pk (c :: t ++ r) 0 = c := by simp
  have hp1 : ∀ k, pk (c :: t ++ r) (k + 1) = pk (t ++ r) k := fun k => by simp
  have hq1 : ∀ k, pk (c :: t) (k + 1) = pk t k := fun k => by simp
  unfold nextF at h ⊢
  rw [if_neg hne] at h
  rw [if_neg hu]
  rw [show hd (c :: t ++ r) = c from rfl, ht] at h
  rw [hd_cons, List.tail_cons]
  by_cases h1 : isSp c = true
  · rw [if_pos h1] at h ⊢
    simp only [Prod.mk.injEq, and_true] at h ⊢
    exact ⟨h.1, drop_cut (p := isSp) (u := c :: t) (w := []) (r := r) h.2⟩
  rw [if_neg h1] at h ⊢
  by_cases h3 : c = 34 ∨ c = 39
  · rw [if_pos h3] at h ⊢
    have hk := quotF_k c (t ++ r) []
    rw [h] at hk
    exact quotF_cut (hk.resolve_right h2) c t [] h
  rw [if_neg h3] at h ⊢
  by_cases h4 : c = 35 ∧ (cont (pk (c :: t ++ r) 1) = true ∨ escs (pk (c :: t ++ r) 1) (pk (c :: t ++ r) 2) = true)
  · rw [if_pos h4] at h
    simp only [Prod.mk.injEq] at h
    have hn : nameF (t ++ r) = ((nameF (t ++ r)).1, r, false) := Prod.ext rfl (Prod.ext h.2.1 h.2.2)
    have h5 := h4.2
    rw [hp1 0, hp1 1, pk_zero] at h5
    have ht0 : t ≠ [] := by
      rintro rfl
      have := nameF_lt h5
      rw [hn, List.nil_append] at this
      exact absurd this (Nat.lt_irrefl _)
    have hc := nameF_cut ST.nil t _ hn
    rw [List.append_nil] at hc
    have h6 := hash_cut hn ht0 h5
    rw [if_pos ⟨h4.1, by rw [hq1 0, hq1 1, pk_zero]; exact h6⟩, hc, ← h.1]
    have hid := idnt_cut ht0 hn
    rw [hq1 0, hq1 1, hq1 2, hp1 0, hp1 1, hp1 2, hid]
  rw [if_neg h4] at h
  have h4' : ¬ (c = 35 ∧ (cont (pk (c :: t) 1) = true ∨ escs (pk (c :: t) 1) (pk (c :: t) 2) = true)) := by
    rintro ⟨e1, e2⟩
    rw [hq1 0, hq1 1, pk_zero] at e2
    rw [hp1 0, hp1 1, pk_zero] at h4
    have ht0 : t ≠ [] := by rintro rfl; simp [cont, strt, isDg, escs] at e2
    -- the sign alone would have been taken
    have hs : t = [] := by
      have hcc : ¬ cnts (pk (c :: t ++ r) 0) (pk (c :: t ++ r) 1) (pk (c :: t ++ r) 2) = true := by subst e1; simp [cnts, isDg]
      rw [if_neg hcc, if_neg (by subst e1; simp), if_neg (by subst e1; simp [idnt, strt, escs]), if_neg (by subst e1; simp), if_neg (by subst e1; simp)] at h
      simp only [Prod.mk.injEq] at h
      exact app_self (r := r) (by rw [h.2.1]; exact Nat.le_refl _)
    exact ht0 hs
  rw [if_neg h4']
  by_cases h5 : cnts (pk (c :: t ++ r) 0) (pk (c :: t ++ r) 1) (pk (c :: t ++ r) 2) = true
  · rw [if_pos h5] at h
    rw [if_pos (cnts_cut h5 (by rw [h]))]
    exact numF_cut h
  rw [if_neg h5] at h
  rw [if_neg (fun e => h5 (cnts_mono e))]
  by_cases h6 : c = 45 ∧ pk (c :: t ++ r) 1 = 45 ∧ pk (c :: t ++ r) 2 = 62
  · rw [if_pos h6] at h
    simp only [Prod.mk.injEq, and_true] at h
    have hl := congrArg List.length h.2
    rw [List.length_drop, len_app, List.length_cons] at hl
    have hl2 : (c :: t ++ r).length ≥ 3 := by
      obtain ⟨_, e2, e3⟩ := h6
      generalize c :: t ++ r = z at e2 e3
      rcases z with _ | ⟨_, _ | ⟨_, _ | ⟨_, z⟩⟩⟩
      · simp at e3
      · simp [pk] at e3
      · simp [pk] at e3
      · simp
    rw [len_app, List.length_cons] at hl2
    rcases t with _ | ⟨a, _ | ⟨b, _ | ⟨d, t⟩⟩⟩
    · simp at hl hl2; omega
    · simp at hl hl2; omega
    · have e1 : c = 45 := h6.1
      have e2 : a = 45 := by simpa [pk] using h6.2.1
      have e3 : b = 62 := by simpa [pk] using h6.2.2
      subst e1 e2 e3
      rw [if_pos (by simp [pk]), ← h.1]; rfl
    · simp at hl; omega
  rw [if_neg h6] at h
  have h6' : ¬ (c = 45 ∧ pk (c :: t) 1 = 45 ∧ pk (c :: t) 2 = 62) := by
    rintro ⟨e1, e2, e3⟩
    apply h6
    rcases t with _ | ⟨a, _ | ⟨b, t⟩⟩
    · simp [pk] at e2
    · simp [pk] at e3
    · exact ⟨e1, by simpa [pk] using e2, by simpa [pk] using e3⟩
  rw [if_neg h6']
  by_cases h7 : idnt (pk (c :: t ++ r) 0) (pk (c :: t ++ r) 1) (pk (c :: t ++ r) 2) = true
  · rw [if_pos h7] at h
    rw [if_pos (idnt_named hx h h7)]
    exact (namedF_cut hx h).1
  rw [if_neg h7] at h
  by_cases h8 : c = 60 ∧ pk (c :: t ++ r) 1 = 33 ∧ pk (c :: t ++ r) 2 = 45 ∧ pk (c :: t ++ r) 3 = 45
  · rw [if_pos h8] at h
    simp only [Prod.mk.injEq, and_true] at h
    have hl := congrArg List.length h.2
    rw [List.length_drop, len_app, List.length_cons] at hl
    have hl2 : (c :: t ++ r).length ≥ 4 := by
      obtain ⟨_, e2, e3, e4⟩ := h8
      generalize c :: t ++ r = z at e2 e3 e4
      rcases z with _ | ⟨_, _ | ⟨_, _ | ⟨_, _ | ⟨_, z⟩⟩⟩⟩
      · simp at e4
      · simp [pk] at e4
      · simp [pk] at e4
      · simp [pk] at e4
      · simp
    rw [len_app, List.length_cons] at hl2
    rcases t with _ | ⟨a, _ | ⟨b, _ | ⟨d, _ | ⟨f, t⟩⟩⟩⟩
    · simp at hl hl2; omega
    · simp at hl hl2; omega
    · simp at hl hl2; omega
    · have e1 : c = 60 := h8.1
      have e2 : a = 33 := by simpa [pk] using h8.2.1
      have e3 : b = 45 := by simpa [pk] using h8.2.2.1
      have e4 : d = 45 := by simpa [pk] using h8.2.2.2
      subst e1 e2 e3 e4
      rw [if_neg (by simp [pk, idnt, strt, escs]), if_pos (by simp [pk]), ← h.1]; rfl
    · simp at hl; omega
  rw [if_neg h8] at h
  by_cases h9 : c = 64 ∧ idnt (pk (c :: t ++ r) 1) (pk (c :: t ++ r) 2) (pk (c :: t ++ r) 3) = true
  · rw [if_pos h9] at h
    simp only [Prod.mk.injEq] at h
    have hn : nameF (t ++ r) = ((nameF (t ++ r)).1, r, false) := Prod.ext rfl (Prod.ext h.2.1 h.2.2)
    have hi := h9.2
    rw [hp1 0, hp1 1, hp1 2] at hi
    have ht0 : t ≠ [] := by
      rintro rfl
      have := nameF_lt (idnt_takes hi)
      rw [hn, List.nil_append] at this
      exact absurd this (Nat.lt_irrefl _)
    have hc := nameF_cut ST.nil t _ hn
    rw [List.append_nil] at hc
    rw [idnt_cut ht0 hn] at hi
    have e1 := h9.1
    subst e1
    rw [if_neg (by simp [idnt, strt, escs]), if_neg (by simp), if_pos ⟨rfl, by rw [hq1 0, hq1 1, hq1 2]; exact hi⟩, hc, ← h.1]
  rw [if_neg h9] at h
  simp only [Prod.mk.injEq, and_true] at h
  have ht0 : t = [] := app_self (r := r) (by rw [h.2]; exact Nat.le_refl _)
  subst ht0
  have hid : ¬ idnt (pk [c] 0) (pk [c] 1) (pk [c] 2) = true := by
    intro e
    apply h7
    simp only [pk_cons, pk_zero, hd_cons, pk_nil, hd_nil] at e
    simp only [List.cons_append, List.nil_append, pk_cons, pk_zero, hd_cons]
    unfold idnt at e ⊢
    by_cases ha : c = 45
    · rw [if_pos ha] at e; simp [strt, escs] at e
    · rw [if_neg ha] at e ⊢
      have hc92 : c ≠ 92 := fun q => h92 (by rw [q])
      rw [escs_not hc92] at e ⊢
      exact e
  rw [if_neg hid, if_neg (by simp [pk]), if_neg (by simp [pk, idnt, strt, escs]), ← h.1]
end Go.Proofs.YtedckphklebndaaGreatDoor
/- The package's tokens over lists of code points: as the reference's, whitespace behind whitespace and the comments within taken together. No condition; no program in sight. -/
namespace Go.Proofs.YtedckphklebndaaGreatDoor
open Go
/-- What is left behind whitespace and the comments within. -/
def wsF (l : List Int) : List Int :=
  if hd (spaceF l) = 47 ∧ pk (spaceF l) 1 = 42 then
    match _h : closeF ((spaceF l).drop 2) with
    | some r => wsF r
    | none => []
  else spaceF l
  termination_by l.length
  decreasing_by
    have := closeF_le _h
    have := spaceF_len l
    simp only [List.length_drop] at *
    omega
theorem wsF_some {l r : List Int} (h1 : hd (spaceF l) = 47 ∧ pk (spaceF l) 1 = 42) (h : closeF ((spaceF l).drop 2) = some r) : wsF l = wsF r := by
  rw [wsF, if_pos h1]
  split
  · rename_i r' e; rw [h] at e; injection e with e; rw [e]
  · rename_i e; rw [h] at e; cases e
theorem wsF_none {l : List Int} (h1 : hd (spaceF l) = 47 ∧ pk (spaceF l) 1 = 42) (h : closeF ((spaceF l).drop 2) = none) : wsF l = [] := by
  rw [wsF, if_pos h1]
  split
  · rename_i r' e; rw [h] at e; cases e
  · rfl
theorem wsF_stop {l : List Int} (h1 : ¬ (hd (spaceF l) = 47 ∧ pk (spaceF l) 1 = 42)) : wsF l = spaceF l := by rw [wsF, if_neg h1]
theorem spaceF_hd (l : List Int) : isSp (hd (spaceF l)) = false := by
  unfold spaceF
  induction l with
  | nil => rfl
  | cons c t ih =>
    cases hc : isSp c with
    | true => rw [List.dropWhile_cons_of_pos hc]; exact ih
    | false => rw [List.dropWhile_cons_of_neg (by simp [hc])]; exact hc
theorem spaceF_stop {l : List Int} (h : isSp (hd l) = false) : spaceF l = l := by
  cases l with
  | nil => rfl
  | cons c t => exact List.dropWhile_cons_of_neg (by simpa using h)
theorem spaceF_idem (l : List Int) : spaceF (spaceF l) = spaceF l := spaceF_stop (spaceF_hd l)
theorem wsF_space (l : List Int) : wsF (spaceF l) = wsF l := by
  by_cases h1 : hd (spaceF l) = 47 ∧ pk (spaceF l) 1 = 42
  · cases h : closeF ((spaceF l).drop 2) with
    | none => rw [wsF_none h1 h, wsF_none (by rw [spaceF_idem]; exact h1) (by rw [spaceF_idem]; exact h)]
    | some r => rw [wsF_some h1 h, wsF_some (by rw [spaceF_idem]; exact h1) (by rw [spaceF_idem]; exact h)]
  · rw [wsF_stop h1, wsF_stop (by rw [spaceF_idem]; exact h1), spaceF_idem]
theorem wsF_suf (l : List Int) : wsF l <:+ l := by
  induction hn : l.length using Nat.strongRecOn generalizing l with
  | _ n ih =>
    by_cases h1 : hd (spaceF l) = 47 ∧ pk (spaceF l) 1 = 42
    · cases h : closeF ((spaceF l).drop 2) with
      | none => rw [wsF_none h1 h]; exact List.nil_suffix
      | some r =>
        have h2 := closeF_le h
        have h3 := spaceF_len l
        simp only [List.length_drop] at h2
        rw [wsF_some h1 h]
        exact (((ih r.length (by omega) r rfl).trans (closeF_suf h)).trans (List.drop_suffix 2 _)).trans (spaceF_suf l)
    · rw [wsF_stop h1]; exact spaceF_suf l
theorem wsF_lt {l : List Int} (h : isSp (hd l) = true) : (wsF l).length < l.length := by
  have h1 : (spaceF l).length < l.length := by
    cases l with
    | nil => simp [isSp, isNL] at h
    | cons c t =>
      simp only [hd_cons] at h
      have := spaceF_len t
      unfold spaceF at *
      rw [List.dropWhile_cons_of_pos h]
      simp only [List.length_cons]; omega
  have h2 := (wsF_suf (spaceF l)).length_le
  rw [wsF_space] at h2
  omega
/-- A token's end. -/
def endF (l : List Int) : List Int := if isSp (hd l) = true then wsF l else (nextF l).2.1
theorem endF_lt {l : List Int} (h : l ≠ []) : (endF l).length < l.length := by
  unfold endF
  split
  · rename_i e; exact wsF_lt e
  · exact nextF_lt h
theorem endF_suf (l : List Int) : endF l <:+ l := by
  unfold endF
  split
  · exact wsF_suf l
  · exact nextF_suf l
/-- The package's tokens. -/
def ptoks (l : List Int) : List (Tok × List Int × List Int) :=
  if (cmtsF l).1 = [] then []
  else if _h : (endF (cmtsF l).1).length < l.length then ((nextF (cmtsF l).1).1, (cmtsF l).1, endF (cmtsF l).1) :: ptoks (endF (cmtsF l).1)
  else []
  termination_by l.length
theorem ptoks_nil {l : List Int} (h : (cmtsF l).1 = []) : ptoks l = [] := by rw [ptoks, if_pos h]
theorem ptoks_cons {l : List Int} (h : (cmtsF l).1 ≠ []) : ptoks l = ((nextF (cmtsF l).1).1, (cmtsF l).1, endF (cmtsF l).1) :: ptoks (endF (cmtsF l).1) := by
  rw [ptoks, if_neg h, dif_pos]
  have := endF_lt h
  have := cmtsF_le l
  omega
theorem ptoks_of_cmts {a b : List Int} (h : cmtsF a = cmtsF b) : ptoks a = ptoks b := by
  by_cases e : (cmtsF a).1 = []
  · rw [ptoks_nil e, ptoks_nil (by rw [← h]; exact e)]
  · have e2 : (cmtsF b).1 ≠ [] := by rw [← h]; exact e
    rw [ptoks_cons e, ptoks_cons e2, h]
/-- What is of a kind behind one of this kind is left out. -/
def mrg {α : Type} (p : α → Bool) : Bool → List α → List α
  | _, [] => []
  | w, a :: l => if p a && w then mrg p w l else a :: mrg p (p a) l
def isW (t : Tok × List Int × List Int) : Bool := t.1.kind == 38
theorem urlF_k (l : List Int) : ∀ out, (urlF out l).1.kind = 37 ∨ (urlF out l).1.kind = 3 := by
  induction hn : l.length using Nat.strongRecOn generalizing l with
  | _ n ih =>
    intro out
    cases l with
    | nil => rw [urlF]; exact .inl rfl
    | cons c t =>
      have e3 := escF_le t
      simp only [List.length_cons] at hn
      rw [urlF]
      split
      · exact .inl rfl
      · split
        · split
          · exact .inl rfl
          · split
            · exact .inl rfl
            · exact .inr rfl
        · split
          · exact .inr rfl
          · split
            · exact ih (escF t).2.1.length (by omega) _ rfl (out ++ enc (escF t).1)
            · exact ih t.length (by omega) t rfl (out ++ enc c)
theorem signK_lt (c : Int) : signK c < 38 := by
  unfold signK
  repeat' split
  all_goals omega
theorem nextF_space {l : List Int} (h : isSp (hd l) = true) : nextF l = ({ kind := 38 }, spaceF l, false) := by
  have hne : l ≠ [] := by rintro rfl; simp [isSp, isNL] at h
  unfold nextF
  rw [if_neg hne, if_pos h]
theorem nextF_nospace {l : List Int} (h : isSp (hd l) = false) : (nextF l).1.kind ≠ 38 := by
  unfold nextF
  split
  · simp
  · rw [if_neg (by rw [h]; decide)]
    split
    · rcases quotF_k (hd l) l.tail [] with e | e <;> rw [e] <;> decide
    · split
      · simp
      · split
        · unfold numF; split
          · simp
          · split <;> simp
        · split
          · simp
          · split
            · unfold namedF; split
              · split
                · rcases urlF_k (spaceF (nameF l).2.1.tail) [] with e | e <;> simp only [e] <;> decide
                · simp
              · simp
            · split
              · simp
              · split
                · simp
                · have := signK_lt (hd l); simp only; omega
theorem cmtsF_hd (l : List Int) : ¬ (hd (cmtsF l).1 = 47 ∧ pk (cmtsF l).1 1 = 42) := by
  induction hn : l.length using Nat.strongRecOn generalizing l with
  | _ n ih =>
    by_cases h1 : hd l = 47 ∧ pk l 1 = 42
    · cases hc : closeF (l.drop 2) with
      | none => rw [cmtsF_none h1 hc]; simp
      | some r =>
        have hlt := closeF_le hc
        simp only [List.length_drop] at hlt
        rw [cmtsF_some h1 hc]
        exact ih r.length (by omega) r rfl
    · rw [cmtsF_stop h1]; exact h1
theorem cmtsF_idem (l : List Int) : cmtsF (cmtsF l).1 = ((cmtsF l).1, false) := cmtsF_stop (cmtsF_hd l)
/-- Two lists, place by place. -/
inductive Fa2 {α β : Type} (R : α → β → Prop) : List α → List β → Prop
  | nil : Fa2 R [] []
  | cons {a : α} {b : β} {l : List α} {m : List β} : R a b → Fa2 R l m → Fa2 R (a :: l) (b :: m)
/-- The same tokens, wherever whitespace ends. -/
def Sam (a b : Tok × List Int × List Int) : Prop := a.1 = b.1 ∧ a.2.1 = b.2.1 ∧ (a.1.kind ≠ 38 → a.2.2 = b.2.2)
theorem toks_false {l : List Int} (h : (toks l).2 = false) : (cmtsF l).2 = false ∧ ((cmtsF l).1 ≠ [] → (nextF (cmtsF l).1).2.2 = false ∧ (toks (nextF (cmtsF l).1).2.1).2 = false) := by
  by_cases e : (cmtsF l).1 = []
  · rw [toks_nil e] at h; exact ⟨h, fun q => absurd e q⟩
  · rw [toks_cons e] at h
    simp only [Bool.or_eq_false_iff] at h
    exact ⟨h.1.1, fun _ => ⟨h.1.2, h.2⟩⟩
theorem ptoks_toks (l : List Int) : (toks l).2 = false → Fa2 Sam (mrg isW false (toks l).1) (ptoks l) ∧ Fa2 Sam (mrg isW true (toks l).1) (ptoks (wsF l)) := by
  induction hn : l.length using Nat.strongRecOn generalizing l with
  | _ n ih =>
    intro ho
    have hf := toks_false ho
    by_cases h1 : hd l = 47 ∧ pk l 1 = 42
    · -- a comment
      cases hc : closeF (l.drop 2) with
      | none => rw [cmtsF_none h1 hc] at hf; simp at hf
      | some r =>
        have hlt := closeF_le hc
        simp only [List.length_drop] at hlt
        have hcm := cmtsF_some h1 hc
        have hs : spaceF l = l := spaceF_stop (by rw [h1.1]; decide)
        rw [toks_of_cmts hcm] at ho ⊢
        rw [ptoks_of_cmts hcm, wsF_some (by rw [hs]; exact h1) (by rw [hs]; exact hc)]
        exact ih r.length (by omega) r rfl ho
    · have hcm : cmtsF l = (l, false) := cmtsF_stop h1
      by_cases hl : l = []
      · subst hl
        rw [toks_nil (by rw [hcm]), ptoks_nil (by rw [hcm])]
        have hw : wsF [] = [] := wsF_stop (by simp [spaceF])
        rw [hw, ptoks_nil (by rw [hcm])]
        exact ⟨.nil, .nil⟩
      · have hne : (cmtsF l).1 ≠ [] := by rw [hcm]; exact hl
        have hq := hf.2 hne
        rw [toks_cons hne]
        rw [hcm] at hq ⊢
        simp only at hq ⊢
        have hlt := nextF_lt hl
        cases hsp : isSp (hd l) with
        | true =>
          have hx := nextF_space hsp
          rw [hx] at hq hlt ⊢
          simp only at hq hlt ⊢
          have hI := (ih (spaceF l).length (by omega) (spaceF l) rfl hq.2).2
          rw [wsF_space] at hI
          have hP : ptoks l = (({ kind := 38 } : Tok), l, wsF l) :: ptoks (wsF l) := by
            rw [ptoks_cons hne, hcm]
            simp only
            have : endF l = wsF l := by unfold endF; rw [if_pos hsp]
            rw [this, hx]
          refine ⟨?_, ?_⟩
          · rw [hP]
            simp only [mrg, Bool.and_false, Bool.false_eq_true, if_false]
            exact .cons ⟨rfl, rfl, fun q => absurd rfl q⟩ hI
          · simp only [mrg, isW, beq_self_eq_true, Bool.and_true, if_true]
            exact hI
        | false =>
          have hk := nextF_nospace hsp
          have hI := (ih _ (by omega) (nextF l).2.1 rfl hq.2).1
          have hP : ptoks l = ((nextF l).1, l, (nextF l).2.1) :: ptoks (nextF l).2.1 := by
            rw [ptoks_cons hne, hcm]
            simp only
            have : endF l = (nextF l).2.1 := by unfold endF; rw [if_neg (by rw [hsp]; decide)]
            rw [this]
          have hw : wsF l = l := by
            rw [wsF_stop (by rw [spaceF_stop hsp]; exact h1), spaceF_stop hsp]
          have hW : isW ((nextF l).1, l, (nextF l).2.1) = false := by unfold isW; simpa using hk
          rw [hw, hP]
          simp only [mrg, hW, Bool.false_and, Bool.false_eq_true, if_false]
          exact ⟨.cons ⟨rfl, rfl, fun _ => rfl⟩ hI, .cons ⟨rfl, rfl, fun _ => rfl⟩ hI⟩
theorem mrg_idem {α : Type} (p : α → Bool) (l : List α) : ∀ w w', (w' = true → w = true) → mrg p w' (mrg p w l) = mrg p w l := by
  induction l with
  | nil => intro w w' _; rfl
  | cons a l ih =>
    intro w w' h
    simp only [mrg]
    split
    · exact ih w w' h
    · rename_i e
      have e2 : (p a && w') = false := by
        cases q : p a with
        | false => rfl
        | true =>
          rw [q] at e
          cases w' with
          | false => rfl
          | true => rw [h rfl] at e; simp at e
      simp only [mrg, e2, Bool.false_eq_true, if_false]
      rw [ih (p a) (p a) (fun q => q)]
theorem mrg_map {α β : Type} (p : α → Bool) (q : β → Bool) (f : α → β) (h : ∀ a, q (f a) = p a) (l : List α) : ∀ w, mrg q w (l.map f) = (mrg p w l).map f := by
  induction l with
  | nil => intro w; rfl
  | cons a l ih =>
    intro w
    simp only [List.map_cons, mrg, h]
    split
    · exact ih w
    · rw [List.map_cons, ih]
/-- Merged beforehand, in two parts. -/
theorem mrg_append {α : Type} (p : α → Bool) (a b : List α) : ∀ w, mrg p w (a ++ b) = mrg p w (mrg p w a ++ b) := by
  induction a with
  | nil => intro w; rfl
  | cons c a ih =>
    intro w
    simp only [List.cons_append, mrg]
    split
    · exact ih w
    · rename_i e
      simp only [List.cons_append, mrg, e]
      rw [if_neg (by decide), ih]
theorem mrg_append_right {α : Type} (p : α → Bool) (a b : List α) : ∀ w, mrg p w (a ++ mrg p false b) = mrg p w (a ++ b) := by
  induction a with
  | nil =>
    intro w
    rw [List.nil_append, List.nil_append]
    cases w with
    | false => exact mrg_idem p b false false (fun q => q)
    | true =>
      cases b with
      | nil => rfl
      | cons c b =>
        cases q : p c with
        | false =>
          simp only [mrg, q, Bool.false_and, Bool.false_eq_true, if_false]
          rw [mrg_idem p b false false (fun q => q)]
        | true =>
          simp only [mrg, q, Bool.true_and, Bool.false_eq_true, if_false, if_true]
          exact mrg_idem p b true true (fun q => q)
  | cons c a ih =>
    intro w
    simp only [List.cons_append, mrg]
    split
    · exact ih w
    · rw [ih]
/-- What of a token the statements compare. -/
structure Ab where
  kind : Int
  id : Bool
  text : List UInt8
  unit : Int
def hasT (k : Int) : Bool := k == 29 || k == 1 || k == 28 || k == 27 || k == 36 || k == 37
def ab (t : Tok) : Ab := ⟨t.kind, t.id, if hasT t.kind then t.text else [], if t.kind = 26 then t.unit % 65536 else 0⟩
def abW (a : Ab) : Bool := a.kind == 38
def abs_ (ts : List (Tok × List Int × List Int)) : List Ab := ts.map (fun t => ab t.1)
theorem Sam.abs {a b : List (Tok × List Int × List Int)} (h : Fa2 Sam a b) : abs_ a = abs_ b := by
  induction h with
  | nil => rfl
  | cons h _ ih => unfold abs_ at ih ⊢; rw [List.map_cons, List.map_cons, ih, h.1]
/-- What the statements compare of a text's tokens. -/
def view (l : List Int) : List Ab := mrg abW false (abs_ (toks l).1)
theorem abs_mrg (ts : List (Tok × List Int × List Int)) (w : Bool) : mrg abW w (abs_ ts) = abs_ (mrg isW w ts) := mrg_map isW abW _ (fun _ => rfl) ts w
theorem ptoks_view {l : List Int} (h : (toks l).2 = false) : abs_ (ptoks l) = view l := by
  unfold view
  rw [abs_mrg, Sam.abs (ptoks_toks l h).1]
theorem view_idem (l : List Int) : mrg abW false (view l) = view l := mrg_idem _ _ _ _ (fun q => q)
/-- Whitespace never follows whitespace. -/
theorem ptoks_merged {l : List Int} (h : (toks l).2 = false) : mrg isW false (ptoks l) = ptoks l := by
  have h1 := (ptoks_toks l h).1
  have h2 := mrg_idem isW (toks l).1 false false (fun q => q)
  generalize mrg isW false (toks l).1 = a at h1 h2
  have key : ∀ (a b : List (Tok × List Int × List Int)) (w : Bool), Fa2 Sam a b → mrg isW w a = a → mrg isW w b = b := by
    intro a b w hf
    induction hf generalizing w with
    | nil => intro _; rfl
    | cons hs hr ih =>
      rename_i x y xs ys
      intro e
      have hk : isW x = isW y := by unfold isW; rw [hs.1]
      simp only [mrg] at e ⊢
      rw [← hk]
      split
      · rename_i e2
        rw [if_pos e2] at e
        exfalso
        have hl : ∀ (z : List (Tok × List Int × List Int)) (w : Bool), (mrg isW w z).length ≤ z.length := by
          intro z
          induction z with
          | nil => intro w; exact Nat.le_refl _
          | cons c z ih => intro w; simp only [mrg]; split
                           · have := ih w; simp only [List.length_cons]; omega
                           · have := ih (isW c); simp only [List.length_cons]; omega
        have := hl xs w
        rw [e] at this
        simp at this
        omega
      · rename_i e2
        rw [if_neg e2] at e
        injection e with _ e
        rw [ih _ e]
  exact key a _ false h1 h2
theorem toks_ws (m : List Int) : (toks m).2 = false → (toks (wsF m)).2 = false := by
  induction hm : m.length using Nat.strongRecOn generalizing m with
  | _ k ihm =>
    intro hom
    have hfm := toks_false hom
    by_cases c1 : isSp (hd m) = true
    · have hxm := nextF_space c1
      have hc0 : cmtsF m = (m, false) := cmtsF_stop (by rintro ⟨e1, _⟩; rw [e1] at c1; simp [isSp, isNL] at c1)
      have hm0 : (cmtsF m).1 ≠ [] := by rw [hc0]; rintro rfl; simp [isSp, isNL] at c1
      have hqm := hfm.2 hm0
      rw [hc0, hxm] at hqm
      simp only at hqm
      have hlt : (spaceF m).length < m.length := by
        have := nextF_lt (l := m) (by rintro rfl; simp [isSp, isNL] at c1)
        rwa [hxm] at this
      rw [← wsF_space]
      exact ihm _ (by omega) (spaceF m) rfl hqm.2
    · have c2 : isSp (hd m) = false := by simpa using c1
      have hsm := spaceF_stop c2
      by_cases c3 : hd m = 47 ∧ pk m 1 = 42
      · cases hc : closeF (m.drop 2) with
        | none => rw [cmtsF_none c3 hc] at hfm; simp at hfm
        | some r =>
          have hlt := closeF_le hc
          simp only [List.length_drop] at hlt
          rw [wsF_some (by rw [hsm]; exact c3) (by rw [hsm]; exact hc)]
          rw [toks_of_cmts (cmtsF_some c3 hc)] at hom
          exact ihm r.length (by omega) r rfl hom
      · rw [wsF_stop (by rw [hsm]; exact c3), hsm]; exact hom
theorem toks_end {l : List Int} (ho : (toks l).2 = false) (e : (cmtsF l).1 ≠ []) : (toks (endF (cmtsF l).1)).2 = false := by
  have hq := (toks_false ho).2 e
  cases hsp : isSp (hd (cmtsF l).1) with
  | false =>
    have : endF (cmtsF l).1 = (nextF (cmtsF l).1).2.1 := by unfold endF; rw [if_neg (by rw [hsp]; decide)]
    rw [this]; exact hq.2
  | true =>
    have : endF (cmtsF l).1 = wsF (cmtsF l).1 := by unfold endF; rw [if_pos hsp]
    rw [this]
    have hx := nextF_space hsp
    rw [hx] at hq
    rw [← wsF_space]
    exact toks_ws _ hq.2
theorem mem_ptoks {l : List Int} {t : Tok × List Int × List Int} (h : t ∈ ptoks l) (ho : (toks l).2 = false) :
    t.2.1 ≠ [] ∧ t.2.1 <:+ l ∧ t.1 = (nextF t.2.1).1 ∧ t.2.2 = endF t.2.1 ∧ (nextF t.2.1).2.2 = false := by
  induction hn : l.length using Nat.strongRecOn generalizing l with
  | _ n ih =>
    by_cases e : (cmtsF l).1 = []
    · rw [ptoks_nil e] at h; cases h
    · have h2 := endF_lt e
      have hle := cmtsF_le l
      have ho2 := toks_end ho e
      rw [ptoks_cons e] at h
      rcases List.mem_cons.1 h with rfl | h
      · exact ⟨e, cmtsF_suf l, rfl, rfl, ((toks_false ho).2 e).1⟩
      · have := ih _ (by omega) h ho2 rfl
        exact ⟨this.1, this.2.1.trans ((endF_suf _).trans (cmtsF_suf l)), this.2.2⟩
theorem tok_open {l : List Int} {t : Tok × List Int × List Int} (h : t ∈ ptoks l) (ho : (toks l).2 = false) : (toks t.2.1).2 = false := by
  induction hn : l.length using Nat.strongRecOn generalizing l with
  | _ n ih =>
    by_cases e : (cmtsF l).1 = []
    · rw [ptoks_nil e] at h; cases h
    · have h2 := endF_lt e
      have hle := cmtsF_le l
      have ho2 := toks_end ho e
      rw [ptoks_cons e] at h
      rcases List.mem_cons.1 h with rfl | h
      · have hf := (toks_false ho).1
        rw [toks_of_cmts (b := l) ((cmtsF_idem l).trans (Prod.ext rfl hf.symm))]
        exact ho
      · exact ih _ (by omega) h ho2 rfl
end Go.Proofs.YtedckphklebndaaGreatDoor
