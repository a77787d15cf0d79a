/- What a token's text means, decoded from its letters: the same as the reference reads. No condition; no program in sight. -/
import Derived.Test.YtedckphklebndaaGreatDoorQGX3
import Derived.Shelf.Strings.Builder1
import Derived.Shelf.Strings.Builder2
import Derived.Shelf.Strings.OnBuilder
import Derived.Shelf.Small.Utf8
import Derived.Shelf.Strings.BuilderF
import Derived.Shelf.Strings.BuilderK
import Derived.Shelf.Strings.BuilderRune
import Derived.Shelf.Utf8.AppendRune
import Derived.Shelf.Strings.Prefix
import Derived.Shelf.Unicode.Decode
import Derived.Shelf.Unicode.DecodeSlow
import Derived.Shelf.Unicode.DecodeAny
import Derived.Shelf.Unicode.DecodeLast
import Derived.Test.YtedckphklebndaaGreatDoorProg
import Derived.Test.YtedckphklebndaaGreatDoorQGS
import Derived.Deep.RegionWith
import Derived.Deep.DeepCutAuto
namespace Go.Proofs.YtedckphklebndaaGreatDoor
open Go
/-- Behind the digits of an escape. -/
def skSp (r : List Int) : List Int := if isSp (hd r) = true then r.tail else r
theorem skSp_le (r : List Int) : (skSp r).length ≤ r.length := by unfold skSp; split <;> simp
/-- The package's decoding of escapes. -/
def decF : List Int → List UInt8
  | [] => []
  | c :: t =>
    if c = 92 then
      if t = [] then enc 65533
      else if 0 ≤ hexv (hd t) then enc (escVal (hexs 6 0 t).1) ++ decF (skSp (hexs 6 0 t).2)
      else if isNL (hd t) = true then decF (nlTake t)
      else enc (hd t) ++ decF t.tail
    else enc c ++ decF t
  termination_by l => l.length
  decreasing_by
    · have h1 := hexs_le 6 0 t
      have h2 := skSp_le (hexs 6 0 t).2
      simp only [List.length_cons]; omega
    · have := nlTake_le t
      simp only [List.length_cons]; omega
    · simp only [List.length_cons, List.length_tail]; omega
    · simp
theorem decF_nil : decF [] = [] := by rw [decF]
theorem decF_plain {c : Int} (h : c ≠ 92) (t : List Int) : decF (c :: t) = enc c ++ decF t := by rw [decF, if_neg h]
theorem decF_end : decF [92] = enc 65533 := by rw [decF, if_pos rfl, if_pos rfl]
theorem decF_hex {t : List Int} (h : 0 ≤ hexv (hd t)) : decF (92 :: t) = enc (escVal (hexs 6 0 t).1) ++ decF (skSp (hexs 6 0 t).2) := by
  have : t ≠ [] := by rintro rfl; simp [hexv] at h
  rw [decF, if_pos rfl, if_neg this, if_pos h]
theorem decF_nl {t : List Int} (h : isNL (hd t) = true) : decF (92 :: t) = decF (nlTake t) := by
  have h1 : t ≠ [] := by rintro rfl; simp [isNL] at h
  have h2 : ¬ 0 ≤ hexv (hd t) := by
    have : hd t = 10 ∨ hd t = 13 ∨ hd t = 12 := by
      unfold isNL at h; simp only [Bool.or_eq_true, beq_iff_eq] at h; omega
    rcases this with e | e | e <;> rw [e] <;> decide
  rw [decF, if_pos rfl, if_neg h1, if_neg h2, if_pos h]
theorem decF_one {t : List Int} (h0 : t ≠ []) (h1 : hexv (hd t) < 0) (h2 : isNL (hd t) = false) : decF (92 :: t) = enc (hd t) ++ decF t.tail := by
  rw [decF, if_pos rfl, if_neg h0, if_neg (by omega), if_neg (by rw [h2]; decide)]
theorem dec_esc {u v : List Int} {x : Int} (h : escF u = (x, v, false)) (hn : isNL (hd u) = false) : decF (92 :: u) = enc x ++ decF v := by
  cases u with
  | nil => simp [escF] at h
  | cons c t =>
    simp only [escF] at h
    by_cases hx : hexv c < 0
    · rw [if_pos hx] at h
      simp only [Prod.mk.injEq, and_true] at h
      rw [decF_one (by simp) (by simpa using hx) hn, hd_cons, List.tail_cons, h.1, h.2]
    · rw [if_neg hx] at h
      simp only [Prod.mk.injEq] at h
      rw [decF_hex (by simp only [hd_cons]; omega), h.1]
      congr 2
      rw [← h.2.1]
      unfold escRest skSp
      rw [if_neg (show ¬ isNL (hd (hexs 6 0 (c :: t)).2) = true by rw [h.2.2]; decide)]
theorem escs_iff {a b : Int} (h : escs a b = true) : a = 92 ∧ isNL b = false := by
  unfold escs at h
  simpa using h
theorem dec_name (u : List Int) : ∀ o, nameF u = (o, [], false) → decF u = o := by
  induction hn : u.length using Nat.strongRecOn generalizing u with
  | _ n ih =>
    intro o h
    cases u with
    | nil =>
      rw [nameF] at h
      simp only [Prod.mk.injEq, and_true] at h
      rw [decF_nil, h]
    | cons c t =>
      simp only [List.length_cons] at hn
      rw [nameF] at h
      by_cases hc : cont c = true
      · rw [if_pos hc] at h
        simp only [Prod.mk.injEq] at h
        rw [decF_plain (cont_not hc), ih t.length (by omega) t rfl (nameF t).1 (Prod.ext rfl h.2), h.1]
      · rw [if_neg hc] at h
        by_cases he : escs c (hd t) = true
        · rw [if_pos he] at h
          simp only [Prod.mk.injEq, Bool.or_eq_false_iff] at h
          obtain ⟨e1, e2⟩ := escs_iff he
          have hlt := escF_lt h.2.2.1
          subst e1
          rw [dec_esc (Prod.ext rfl (Prod.ext rfl h.2.2.1)) e2, ih _ (by omega) _ rfl (nameF (escF t).2.1).1 (Prod.ext rfl (Prod.ext h.2.1 h.2.2.2)), h.1]
        · rw [if_neg he] at h
          simp at h
theorem escF_split {t v : List Int} {x q : Int} (h : escF t = (x, v ++ [q], false)) : ∃ p, t = p ++ [q] ∧ p ≠ [] ∧ escF p = (x, v, false) ∧ hd p = hd t := by
  have hs := escF_suf t
  rw [h] at hs
  obtain ⟨w, hw⟩ := hs
  have hlt := escF_lt (l := t) (by rw [h])
  rw [h] at hlt
  simp only at hw hlt
  rw [← List.append_assoc] at hw
  have hp : w ++ v ≠ [] := by
    intro e
    rw [e, List.nil_append] at hw
    rw [← hw, List.length_append] at hlt
    simp at hlt
  refine ⟨w ++ v, hw.symm, hp, ?_, ?_⟩
  · have := escF_cut (r := [q]) (r2 := []) (u := w ++ v) (w := v) (v := x) (by decide) (by decide) hp (by rw [hw]; exact h)
    rwa [List.append_nil, List.append_nil] at this
  · rw [← hw, ext_ne_nil hp]
theorem dec_quot (q : Int) (hq : q = 34 ∨ q = 39) (u : List Int) : ∀ out tok, quotF q out u = (tok, [], false) → tok.kind = 36 → ∃ v, u = v ++ [q] ∧ tok.text = out ++ decF v := by
  induction hn : u.length using Nat.strongRecOn generalizing u with
  | _ n ih =>
    intro out tok h hk
    cases u with
    | nil => rw [quotF] at h; simp at h
    | cons c t =>
      simp only [List.length_cons] at hn
      rw [quotF] at h
      by_cases h1 : c = q
      · rw [if_pos h1] at h
        simp only [Prod.mk.injEq, and_true] at h
        exact ⟨[], by rw [h.2, h1]; rfl, by rw [← h.1, decF_nil, List.append_nil]⟩
      · rw [if_neg h1] at h
        by_cases h2 : isNL c = true
        · rw [if_pos h2] at h; simp at h
        · rw [if_neg h2] at h
          by_cases h3 : c = 92
          · rw [if_pos h3] at h
            subst h3
            by_cases h4 : isNL (hd t) = true
            · rw [if_pos h4] at h
              have h0 : t ≠ [] := by rintro rfl; simp [isNL] at h4
              have hlt := nlTake_lt h0
              obtain ⟨v, hv, ht⟩ := ih _ (by omega) (nlTake t) rfl out tok h hk
              -- the end of the line, and what stands behind it
              obtain ⟨p, hp⟩ := nlTake_suf t
              rw [hv, ← List.append_assoc] at hp
              have hpv : p ++ v ≠ [] := by
                intro e
                rw [e, List.nil_append] at hp
                rw [← hp] at h4
                rcases hq with rfl | rfl <;> simp [isNL] at h4
              refine ⟨92 :: (p ++ v), by rw [← hp]; rfl, ?_⟩
              have h5 : hd (p ++ v) = hd t := by rw [← hp, ext_ne_nil hpv]
              rw [decF_nl (by rw [h5]; exact h4), nlTake_cut (r := [q]) (w := v) hpv (by rw [hp, hv]), ht]
            · rw [if_neg h4] at h
              have h4' : isNL (hd t) = false := by simpa using h4
              by_cases h5 : t = []
              · rw [if_pos h5] at h; simp at h
              · rw [if_neg h5] at h
                simp only [Prod.mk.injEq, Bool.or_eq_false_iff] at h
                have hlt := escF_lt h.2.2.1
                obtain ⟨v, hv, ht⟩ := ih _ (by omega) (escF t).2.1 rfl (out ++ enc (escF t).1) tok (Prod.ext h.1 (Prod.ext h.2.1 h.2.2.2)) hk
                obtain ⟨p, hp, hp0, hpe, hph⟩ := escF_split (t := t) (v := v) (q := q) (x := (escF t).1) (Prod.ext rfl (Prod.ext hv h.2.2.1))
                refine ⟨92 :: p, by rw [hp]; rfl, ?_⟩
                rw [dec_esc hpe (by rw [hph]; exact h4'), ht, List.append_assoc]
          · rw [if_neg h3] at h
            obtain ⟨v, hv, ht⟩ := ih t.length (by omega) t rfl _ tok h hk
            exact ⟨c :: v, by rw [hv]; rfl, by rw [decF_plain h3, ht, List.append_assoc]⟩
/-- Without the whitespace at its end. -/
def strE : List Int → List Int
  | [] => []
  | c :: t => if strE t = [] ∧ isSp c = true then [] else c :: strE t
theorem strE_nosp {c : Int} (h : isSp c = false) (t : List Int) : strE (c :: t) = c :: strE t := by
  simp only [strE]; rw [if_neg (by rw [h]; simp)]
theorem strE_more {t : List Int} (h : strE t ≠ []) (c : Int) : strE (c :: t) = c :: strE t := by
  simp only [strE]; rw [if_neg (fun e => h e.1)]
theorem strE_space (t : List Int) : strE t = [] ↔ ∀ c ∈ t, isSp c = true := by
  induction t with
  | nil => simp [strE]
  | cons c t ih =>
    simp only [strE]
    split
    · rename_i e
      constructor
      · intro _ x hx
        rcases List.mem_cons.1 hx with rfl | hx
        · exact e.2
        · exact ih.1 e.1 x hx
      · intro _; rfl
    · rename_i e
      constructor
      · intro e2; cases e2
      · intro e2
        exact absurd ⟨ih.2 (fun x hx => e2 x (List.mem_cons_of_mem _ hx)), e2 c (List.mem_cons_self ..)⟩ e
theorem strE_hd {t : List Int} (h : strE t ≠ []) : hd (strE t) = hd t := by
  cases t with
  | nil => exact absurd rfl h
  | cons c t =>
    simp only [strE] at h ⊢
    split
    · rename_i e; rw [if_pos e] at h; exact absurd rfl h
    · rfl
/-- What ends with whitespace. -/
def endS (d : List UInt8) : Prop := ∃ a b, d = a ++ [b] ∧ spB b = true
theorem endS_app {d : List UInt8} (h : endS d) (a : List UInt8) : endS (a ++ d) := by
  obtain ⟨x, b, rfl, hb⟩ := h
  exact ⟨a ++ x, b, by rw [List.append_assoc], hb⟩
theorem enc_sp {c : Int} (h : isSp c = true) : enc c = [c.toNat.toUInt8] ∧ spB c.toNat.toUInt8 = true := by
  have : c = 10 ∨ c = 13 ∨ c = 12 ∨ c = 9 ∨ c = 32 := by
    unfold isSp isNL at h; simp only [Bool.or_eq_true, beq_iff_eq] at h; omega
  rcases this with rfl | rfl | rfl | rfl | rfl <;> exact ⟨by rw [enc_one (by decide) (by decide)], by decide⟩
theorem urlF_spc {out : List UInt8} {t : List Int} {tok : Tok} {r : List Int} (h : urlF out t = (tok, r, false)) (hk : tok.kind = 37) (hne : isSp (hd t) = true) : hd (spaceF t) = 41 ∧ tok.text = out ∧ r = (spaceF t).tail := by
  cases t with
  | nil => simp [isSp, isNL] at hne
  | cons c t =>
    simp only [hd_cons] at hne
    rw [urlF, if_neg (by rintro rfl; simp [isSp, isNL] at hne), if_pos hne] at h
    have hs : spaceF (c :: t) = spaceF t := List.dropWhile_cons_of_pos hne
    rw [hs]
    by_cases h3 : spaceF t = []
    · rw [if_pos h3] at h; simp at h
    · rw [if_neg h3] at h
      by_cases h4 : hd (spaceF t) = 41
      · rw [if_pos h4] at h
        simp only [Prod.mk.injEq, and_true] at h
        exact ⟨h4, by rw [← h.1], h.2.symm⟩
      · rw [if_neg h4] at h
        simp only [Prod.mk.injEq] at h
        rw [← h.1] at hk; simp at hk
theorem space_all {t v : List Int} (h : spaceF t = [41] ++ v) : ∃ p, t = p ++ 41 :: v ∧ ∀ c ∈ p, isSp c = true := by
  induction t with
  | nil => simp [spaceF] at h
  | cons c t ih =>
    unfold spaceF at h ih
    rw [List.dropWhile_cons] at h
    split at h
    · rename_i e
      obtain ⟨p, hp, ha⟩ := ih h
      refine ⟨c :: p, by rw [hp]; rfl, fun x hx => ?_⟩
      rcases List.mem_cons.1 hx with rfl | hx
      · exact e
      · exact ha x hx
    · exact ⟨[], h, fun x hx => by cases hx⟩
theorem hexs_strE (n : Nat) : ∀ (v0 : Int) (p : List Int), (strE (skSp (hexs n v0 p).2) ≠ [] → (hexs n v0 (strE p)).1 = (hexs n v0 p).1 ∧ skSp (hexs n v0 (strE p)).2 = strE (skSp (hexs n v0 p).2)) ∧
    (strE (skSp (hexs n v0 p).2) = [] → isSp (hd (skSp (hexs n v0 p).2)) = false → (hexs n v0 (strE p)).1 = (hexs n v0 p).1 ∧ skSp (hexs n v0 (strE p)).2 = []) := by
  have base : ∀ (m : Nat) (v0 : Int) (p : List Int), (m = 0 ∨ hexv (hd p) < 0) → (strE (skSp p) ≠ [] → (hexs m v0 (strE p)).1 = v0 ∧ skSp (hexs m v0 (strE p)).2 = strE (skSp p)) ∧
      (strE (skSp p) = [] → isSp (hd (skSp p)) = false → (hexs m v0 (strE p)).1 = v0 ∧ skSp (hexs m v0 (strE p)).2 = []) := by
    intro m v0 p hm
    have hstop : hexs m v0 (strE p) = (v0, strE p) := by
      rcases hm with rfl | hm
      · rfl
      · by_cases e : strE p = []
        · rw [e, hexs_halt (by decide)]
        · exact hexs_halt (by rw [strE_hd e]; exact hm) m v0
    rw [hstop]
    refine ⟨fun h => ⟨rfl, ?_⟩, fun h h2 => ⟨rfl, ?_⟩⟩
    · simp only
      cases p with
      | nil => simp [skSp, strE, isSp, isNL] at h
      | cons c t =>
        by_cases hc : isSp c = true
        · have e1 : skSp (c :: t) = t := by unfold skSp; rw [if_pos (by simpa using hc)]; rfl
          rw [e1] at h ⊢
          rw [strE_more h]
          unfold skSp; rw [if_pos (by simpa using hc)]; rfl
        · have hc' : isSp c = false := by simpa using hc
          have e1 : skSp (c :: t) = c :: t := by unfold skSp; rw [if_neg (by simpa using hc)]
          rw [e1, strE_nosp hc']
          unfold skSp; rw [if_neg (by simpa using hc)]
    · simp only
      cases p with
      | nil => rfl
      | cons c t =>
        by_cases hc : isSp c = true
        · have e1 : skSp (c :: t) = t := by unfold skSp; rw [if_pos (by simpa using hc)]; rfl
          rw [e1] at h h2
          have : strE (c :: t) = [] := by simp only [strE]; rw [if_pos ⟨h, hc⟩]
          rw [this]; rfl
        · have hc' : isSp c = false := by simpa using hc
          have e1 : skSp (c :: t) = c :: t := by unfold skSp; rw [if_neg (by simpa using hc)]
          rw [e1, strE_nosp hc'] at h
          cases h
  induction n with
  | zero => intro v0 p; exact base 0 v0 p (.inl rfl)
  | succ n ih =>
    intro v0 p
    by_cases hx : hexv (hd p) < 0
    · rw [hexs_halt hx]
      exact base (n + 1) v0 p (.inr hx)
    · cases p with
      | nil => exact absurd (by decide) hx
      | cons c t =>
        simp only [hd_cons] at hx
        have hsp : isSp c = false := by
          cases q : isSp c with
          | false => rfl
          | true =>
            exfalso
            have : c = 10 ∨ c = 13 ∨ c = 12 ∨ c = 9 ∨ c = 32 := by
              unfold isSp isNL at q; simp only [Bool.or_eq_true, beq_iff_eq] at q; omega
            apply hx
            rcases this with rfl | rfl | rfl | rfl | rfl <;> decide
        rw [strE_nosp hsp]
        simp only [hexs]
        rw [if_pos (by omega), if_pos (by omega)]
        exact ih _ t
theorem dec_url (u : List Int) : ∀ out tok, urlF out u = (tok, [], false) → tok.kind = 37 → ∃ v d, u = v ++ [41] ∧ tok.text = out ++ d ∧ (strE v = [] → d = []) ∧ (d = decF (strE v) ∨ endS d) := by
  induction hn : u.length using Nat.strongRecOn generalizing u with
  | _ n ih =>
    intro out tok h hk
    cases u with
    | nil => rw [urlF] at h; simp at h
    | cons c t =>
      simp only [List.length_cons] at hn
      by_cases h2 : isSp c = true
      · obtain ⟨e1, e2, e3⟩ := urlF_spc h hk h2
        have hs : spaceF (c :: t) = [41] ++ [] := by
          cases hh : spaceF (c :: t) with
          | nil => rw [hh] at e1; simp at e1
          | cons d y => rw [hh] at e1 e3; simp only [hd_cons, List.tail_cons] at e1 e3; rw [e1, ← e3]; rfl
        obtain ⟨p, hp, ha⟩ := space_all hs
        have hz := (strE_space p).2 ha
        exact ⟨p, [], hp, by rw [e2, List.append_nil], fun _ => rfl, .inl (by rw [hz, decF_nil])⟩
      · have h2' : isSp c = false := by simpa using h2
        rw [urlF] at h
        by_cases h1 : c = 41
        · rw [if_pos h1] at h
          simp only [Prod.mk.injEq, and_true] at h
          exact ⟨[], [], by rw [h.2, h1]; rfl, by rw [← h.1, List.append_nil], fun _ => rfl, .inl (by rw [strE, decF_nil])⟩
        · rw [if_neg h1, if_neg h2] at h
          by_cases h3 : c = 34 ∨ c = 39 ∨ c = 40 ∨ unpr c = true ∨ (c = 92 ∧ isNL (hd t) = true)
          · rw [if_pos h3] at h
            simp only [Prod.mk.injEq] at h
            rw [← h.1] at hk; simp at hk
          · rw [if_neg h3] at h
            by_cases h4 : c = 92
            · rw [if_pos h4] at h
              subst h4
              have hnl : isNL (hd t) = false := by
                cases q : isNL (hd t) with
                | false => rfl
                | true => exact absurd (.inr (.inr (.inr (.inr ⟨rfl, q⟩)))) h3
              simp only [Prod.mk.injEq, Bool.or_eq_false_iff] at h
              have hlt := escF_lt h.2.2.1
              obtain ⟨v, d, hv, ht, hd0, hd1⟩ := ih _ (by omega) (escF t).2.1 rfl (out ++ enc (escF t).1) tok (Prod.ext h.1 (Prod.ext h.2.1 h.2.2.2)) hk
              obtain ⟨p, hp, hp0, hpe, hph⟩ := escF_split (t := t) (v := v) (q := 41) (x := (escF t).1) (Prod.ext rfl (Prod.ext hv h.2.2.1))
              generalize (escF t).1 = x at *
              refine ⟨92 :: p, enc x ++ d, by rw [hp]; rfl, by rw [ht, List.append_assoc], ?_, ?_⟩
              · intro e; rw [strE_nosp h2'] at e; cases e
              · rw [strE_nosp h2']
                rw [← hph] at hnl
                obtain ⟨y, p2, rfl⟩ : ∃ y p2, p = y :: p2 := by
                  cases p with
                  | nil => exact absurd rfl hp0
                  | cons y p2 => exact ⟨y, p2, rfl⟩
                simp only [hd_cons] at hnl
                by_cases hx : hexv y < 0
                · -- a sign by itself
                  simp only [escF] at hpe
                  rw [if_pos hx] at hpe
                  simp only [Prod.mk.injEq, and_true] at hpe
                  obtain ⟨rfl, rfl⟩ := hpe
                  by_cases hz : strE p2 = []
                  · rw [hd0 hz, List.append_nil]
                    by_cases hy : isSp y = true
                    · right
                      have := enc_sp hy
                      exact ⟨[], _, by rw [this.1]; rfl, this.2⟩
                    · left
                      have hy' : isSp y = false := by simpa using hy
                      rw [strE_nosp hy', hz, decF_one (by simp) (by simpa using hx) (by simpa using hnl)]
                      simp [decF_nil]
                  · rw [strE_more hz, decF_one (by simp) (by simpa using hx) (by simpa using hnl), hd_cons, List.tail_cons]
                    rcases hd1 with e | e
                    · exact .inl (by rw [e])
                    · exact .inr (endS_app e _)
                · -- digits
                  have hesc : escVal (hexs 6 0 (y :: p2)).1 = x ∧ skSp (hexs 6 0 (y :: p2)).2 = v := by
                    simp only [escF] at hpe
                    rw [if_neg hx] at hpe
                    simp only [Prod.mk.injEq] at hpe
                    refine ⟨hpe.1, ?_⟩
                    rw [← hpe.2.1]
                    unfold escRest skSp
                    rw [if_neg (show ¬ isNL (hd (hexs 6 0 (y :: p2)).2) = true by rw [hpe.2.2]; decide)]
                  have hy : isSp y = false := by
                    cases q : isSp y with
                    | false => rfl
                    | true =>
                      exfalso
                      have : y = 10 ∨ y = 13 ∨ y = 12 ∨ y = 9 ∨ y = 32 := by
                        unfold isSp isNL at q; simp only [Bool.or_eq_true, beq_iff_eq] at q; omega
                      apply hx
                      rcases this with rfl | rfl | rfl | rfl | rfl <;> decide
                  have hE := hexs_strE 6 0 (y :: p2)
                  rw [hesc.2] at hE
                  have hh : 0 ≤ hexv (hd (strE (y :: p2))) := by rw [strE_nosp hy, hd_cons]; omega
                  rw [decF_hex hh]
                  by_cases hz : strE v = []
                  · rw [hd0 hz, List.append_nil]
                    by_cases hv0 : isSp (hd v) = true
                    · -- digits, whitespace of the escape, more whitespace
                      obtain ⟨f1, f2⟩ : (hexs 6 0 (strE (y :: p2))).1 = (hexs 6 0 (y :: p2)).1 ∧ skSp (hexs 6 0 (strE (y :: p2))).2 = [] := by
                        have key : ∀ (n : Nat) (v0 : Int) (p : List Int), strE (skSp (hexs n v0 p).2) = [] → isSp (hd (skSp (hexs n v0 p).2)) = true → isSp (hd (hexs n v0 p).2) = true → (hexs n v0 (strE p)).1 = (hexs n v0 p).1 ∧ skSp (hexs n v0 (strE p)).2 = [] := by
                          intro n
                          have fin : ∀ (m : Nat) (v0 : Int) (p : List Int), (m = 0 ∨ hexv (hd p) < 0) → strE (skSp p) = [] → isSp (hd p) = true → (hexs m v0 (strE p)).1 = v0 ∧ skSp (hexs m v0 (strE p)).2 = [] := by
                            intro m v0 p hm k1 k2
                            have : strE p = [] := by
                              cases p with
                              | nil => rfl
                              | cons a b =>
                                simp only [hd_cons] at k2
                                have e1 : skSp (a :: b) = b := by unfold skSp; rw [if_pos (by simpa using k2)]; rfl
                                rw [e1] at k1
                                simp only [strE]; rw [if_pos ⟨k1, k2⟩]
                            rw [this, hexs_halt (by decide)]
                            exact ⟨rfl, rfl⟩
                          induction n with
                          | zero => intro v0 p k1 k2 k3; exact fin 0 v0 p (.inl rfl) k1 k3
                          | succ n ihn =>
                            intro v0 p k1 k2 k3
                            by_cases hx2 : hexv (hd p) < 0
                            · rw [hexs_halt hx2] at k1 k3 ⊢
                              exact fin (n + 1) v0 p (.inr hx2) k1 k3
                            · cases p with
                              | nil => exact absurd (by decide) hx2
                              | cons a b =>
                                simp only [hd_cons] at hx2
                                have ha : isSp a = false := by
                                  cases q : isSp a with
                                  | false => rfl
                                  | true =>
                                    exfalso
                                    have : a = 10 ∨ a = 13 ∨ a = 12 ∨ a = 9 ∨ a = 32 := by
                                      unfold isSp isNL at q; simp only [Bool.or_eq_true, beq_iff_eq] at q; omega
                                    apply hx2
                                    rcases this with rfl | rfl | rfl | rfl | rfl <;> decide
                                rw [strE_nosp ha]
                                simp only [hexs] at k1 k2 k3 ⊢
                                rw [if_pos (by omega)] at k1 k2 k3
                                rw [if_pos (by omega), if_pos (by omega)]
                                exact ihn _ b k1 k2 k3
                        refine key 6 0 (y :: p2) (by rw [hesc.2]; exact hz) (by rw [hesc.2]; exact hv0) ?_
                        cases q : isSp (hd (hexs 6 0 (y :: p2)).2) with
                        | true => rfl
                        | false =>
                          have e := hesc.2
                          unfold skSp at e
                          rw [if_neg (by rw [q]; decide)] at e
                          rw [e, hv0] at q; cases q
                      left
                      rw [f1, f2, hesc.1, decF_nil, List.append_nil]
                    · obtain ⟨f1, f2⟩ := hE.2 hz (by simpa using hv0)
                      left
                      rw [f1, f2, hesc.1, decF_nil, List.append_nil]
                  · obtain ⟨f1, f2⟩ := hE.1 hz
                    rw [f1, f2, hesc.1]
                    rcases hd1 with e | e
                    · exact .inl (by rw [e])
                    · exact .inr (endS_app e _)
            · rw [if_neg h4] at h
              obtain ⟨v, d, hv, ht, hd0, hd1⟩ := ih t.length (by omega) t rfl _ tok h hk
              refine ⟨c :: v, enc c ++ d, by rw [hv]; rfl, by rw [ht, List.append_assoc], ?_, ?_⟩
              · intro e; rw [strE_nosp h2'] at e; cases e
              · rw [strE_nosp h2', decF_plain h4]
                rcases hd1 with e | e
                · exact .inl (by rw [e])
                · exact .inr (endS_app e _)
theorem trimB_end {d : List UInt8} (h : trimB d = true) : ¬ endS d := by
  rintro ⟨a, b, rfl, hb⟩
  unfold trimB at h
  simp [hb] at h
end Go.Proofs.YtedckphklebndaaGreatDoor
/- What a token's letters are, by its kind, and what they mean. No condition; no program in sight. -/
namespace Go.Proofs.YtedckphklebndaaGreatDoor
open Go
/-- The letters of a token that has a text. -/
structure Ltr (t : Tok) (u : List Int) : Prop where
  k29 : t.kind = 29 → decF u = t.text
  k1 : t.kind = 1 ∨ t.kind = 28 → ∃ c v, u = c :: v ∧ 1 ≤ c ∧ c < 128 ∧ decF v = t.text
  k27 : t.kind = 27 → ∃ v, u = v ++ [40] ∧ decF v = t.text
  k36 : t.kind = 36 → ∃ q v, u = q :: (v ++ [q]) ∧ (q = 34 ∨ q = 39) ∧ decF v = t.text
  k37 : t.kind = 37 → ∃ nm sp v, u = nm ++ 40 :: (sp ++ (v ++ [41])) ∧ (encs nm).length = 3 ∧ (∀ c ∈ sp, isSp c = true) ∧ isSp (hd v) = false ∧ decF (strE v) = t.text
theorem Ltr.none {t : Tok} {u : List Int} (h : t.kind ≠ 29 ∧ t.kind ≠ 1 ∧ t.kind ≠ 28 ∧ t.kind ≠ 27 ∧ t.kind ≠ 36 ∧ t.kind ≠ 37) : Ltr t u :=
  ⟨fun e => absurd e h.1, fun e => e.elim (fun e => absurd e h.2.1) (fun e => absurd e h.2.2.1), fun e => absurd e h.2.2.2.1, fun e => absurd e h.2.2.2.2.1, fun e => absurd e h.2.2.2.2.2⟩
theorem cut_eq {u v r : List Int} (h : u ++ r = v ++ r) : u = v := List.append_cancel_right h
theorem ltr_quot {q : Int} (hq : q = 34 ∨ q = 39) {u2 e : List Int} {tok : Tok} (h : quotF q [] (u2 ++ e) = (tok, e, false)) : Ltr tok (q :: u2) := by
  have hk : tok.kind = 36 ∨ tok.kind = 2 := by have := quotF_k q (u2 ++ e) []; rw [h] at this; exact this
  refine ⟨fun x => by omega, fun x => by omega, fun x => by omega, fun x => ?_, fun x => by omega⟩
  obtain ⟨v, hv, ht⟩ := dec_quot q hq u2 [] tok (quotF_cut x q u2 [] h) x
  exact ⟨q, v, by rw [hv], hq, by rw [ht, List.nil_append]⟩
theorem ltr_name {u e : List Int} {o : List UInt8} (h : nameF (u ++ e) = (o, e, false)) : decF u = o := by
  have := nameF_cut ST.nil u o h
  rw [List.append_nil] at this
  exact dec_name u o this
theorem spaceF_app (l : List Int) : ∃ sp, l = sp ++ spaceF l ∧ ∀ c ∈ sp, isSp c = true := by
  refine ⟨l.takeWhile isSp, (List.takeWhile_append_dropWhile).symm, fun c hc => ?_⟩
  exact (List.all_eq_true.1 (List.all_takeWhile (p := isSp) (l := l))) c hc
theorem ltr_named {u e : List Int} {tok : Tok} (h : namedF (u ++ e) = (tok, e, false)) : Ltr tok u := by
  obtain ⟨v, hv⟩ := nameF_suf (u ++ e)
  unfold namedF at h
  generalize hr : (nameF (u ++ e)).2.1 = r at h hv
  generalize ho : (nameF (u ++ e)).1 = o at h
  generalize hb : (nameF (u ++ e)).2.2 = bo at h
  have hN : nameF (u ++ e) = (o, r, bo) := Prod.ext ho (Prod.ext hr hb)
  by_cases h40 : hd r = 40
  · rw [if_pos h40] at h
    obtain ⟨r', rfl⟩ : ∃ r', r = 40 :: r' := by
      cases r with
      | nil => simp at h40
      | cons c t => simp only [hd_cons] at h40; exact ⟨t, by rw [h40]⟩
    by_cases hU : isUrl o = true ∧ hd (spaceF (40 :: r').tail) ≠ 34 ∧ hd (spaceF (40 :: r').tail) ≠ 39
    · rw [if_pos hU] at h
      rw [List.tail_cons] at h
      simp only [Prod.mk.injEq, Bool.or_eq_false_iff] at h
      obtain ⟨h1, h2, ⟨⟨h3, h4⟩, h5⟩, h6⟩ := h
      have hk : tok.kind = 37 ∨ tok.kind = 3 := by have := urlF_k (spaceF r') []; rw [h1] at this; exact this
      refine ⟨fun x => by omega, fun x => by omega, fun x => by omega, fun x => by omega, fun x => ?_⟩
      obtain ⟨u3, hu3⟩ := urlF_suf (spaceF r') []
      rw [h2] at hu3
      obtain ⟨sp, hsp, hspa⟩ := spaceF_app r'
      have hub : urlF [] (u3 ++ e) = (tok, e, false) := by rw [hu3]; exact Prod.ext h1 (Prod.ext h2 h4)
      obtain ⟨w, d, hw, ht, hd0, hd1⟩ := dec_url u3 [] tok (urlF_cut u3 [] hub) x
      have hu : u = v ++ 40 :: (sp ++ u3) := by
        apply cut_eq (r := e)
        rw [← hv, hsp, ← hu3]
        simp
      have hlen : (encs v).length = 3 := by
        have : (encs (u ++ e)).length = (encs (40 :: r')).length + 3 := by simpa using h5
        rw [← hv, encs_append, List.length_append] at this
        omega
      have htr : trimB tok.text = true := by rw [h1] at h6; simpa using h6
      refine ⟨v, sp, w, by rw [hu, hw], hlen, hspa, ?_, ?_⟩
      · have := spaceF_hd r'
        rw [← hu3, hw] at this
        cases w with
        | nil => rfl
        | cons c t => simpa using this
      · rw [ht, List.nil_append] at htr ⊢
        rcases hd1 with e1 | e1
        · exact e1.symm
        · exact absurd e1 (trimB_end htr)
    · rw [if_neg hU, List.tail_cons] at h
      simp only [Prod.mk.injEq] at h
      obtain ⟨h1, h2, h3⟩ := h
      subst h1
      refine ⟨fun x => by simp at x, fun x => by simp at x, fun _ => ?_, fun x => by simp at x, fun x => by simp at x⟩
      rw [h2] at hv hN
      have hu : u = v ++ [40] := by
        apply cut_eq (r := e)
        rw [← hv]; simp
      refine ⟨v, hu, ?_⟩
      rw [← hv, h3] at hN
      exact ltr_name hN
  · rw [if_neg h40] at h
    simp only [Prod.mk.injEq] at h
    obtain ⟨h1, h2, h3⟩ := h
    subst h1
    refine ⟨fun _ => ?_, fun x => by simp at x, fun x => by simp at x, fun x => by simp at x, fun x => by simp at x⟩
    rw [h2, h3] at hN
    exact ltr_name hN
def noText (k : Int) : Prop := k ≠ 29 ∧ k ≠ 1 ∧ k ≠ 28 ∧ k ≠ 27 ∧ k ≠ 36 ∧ k ≠ 37
theorem noText_ite {p : Prop} [Decidable p] {a b : Int} (ha : noText a) (hb : noText b) : noText (if p then a else b) := by split <;> assumption
theorem signK_no (c : Int) : noText (signK c) := by
  unfold signK
  repeat (refine noText_ite (by unfold noText; decide) ?_)
  unfold noText
  decide
theorem ltr_next {u e : List Int} {tok : Tok} (hu : u ≠ []) (h : nextF (u ++ e) = (tok, e, false)) : Ltr tok u := by
  have hne : u ++ e ≠ [] := by simp [hu]
  obtain ⟨c, v, rfl⟩ : ∃ c v, u = c :: v := by
    cases u with
    | nil => exact absurd rfl hu
    | cons c v => exact ⟨c, v, rfl⟩
  have kk : ∀ (k : Int) (r : List Int) (b : Bool), (({ kind := k } : Tok), r, b) = (tok, e, false) → (k ≠ 29 ∧ k ≠ 1 ∧ k ≠ 28 ∧ k ≠ 27 ∧ k ≠ 36 ∧ k ≠ 37) → Ltr tok (c :: v) := by
    intro k r b e1 e2
    simp only [Prod.mk.injEq] at e1
    rw [← e1.1]
    exact Ltr.none e2
  obtain ⟨m, hm⟩ : ∃ m, c :: v ++ e = m := ⟨_, rfl⟩
  have hc : hd m = c := by rw [← hm]; rfl
  have htl : m.tail = v ++ e := by rw [← hm]; rfl
  rw [hm] at h hne
  unfold nextF at h
  rw [if_neg hne] at h
  split at h
  · exact kk _ _ _ h (by decide)
  · split at h
    · rename_i hq
      rw [hc] at hq
      rw [hc, htl] at h
      exact ltr_quot hq h
    · split at h
      · rename_i hq
        rw [hc] at hq
        rw [htl] at h
        simp only [Prod.mk.injEq] at h
        obtain ⟨h1, h2, h3⟩ := h
        subst h1
        refine ⟨fun x => by simp at x, fun _ => ⟨c, v, rfl, by omega, by omega, ?_⟩, fun x => by simp at x, fun x => by simp at x, fun x => by simp at x⟩
        exact ltr_name (Prod.ext rfl (Prod.ext h2 h3))
      · split at h
        · refine Ltr.none ?_
          unfold numF at h
          split at h
          · simp only [Prod.mk.injEq] at h; rw [← h.1]; simp
          · split at h <;> (simp only [Prod.mk.injEq] at h; rw [← h.1]; decide)
        · split at h
          · exact kk _ _ _ h (by decide)
          · split at h
            · rw [← hm] at h
              exact ltr_named (u := c :: v) h
            · split at h
              · exact kk _ _ _ h (by decide)
              · split at h
                · rename_i hq
                  rw [hc] at hq
                  rw [htl] at h
                  simp only [Prod.mk.injEq] at h
                  obtain ⟨h1, h2, h3⟩ := h
                  subst h1
                  refine ⟨fun x => by simp at x, fun _ => ⟨c, v, rfl, by omega, by omega, ?_⟩, fun x => by simp at x, fun x => by simp at x, fun x => by simp at x⟩
                  exact ltr_name (Prod.ext rfl (Prod.ext h2 h3))
                · exact kk _ _ _ h (signK_no _)
end Go.Proofs.YtedckphklebndaaGreatDoor
/- The bytes of an address: where it begins and ends within its token. No condition; no program in sight. -/
namespace Go.Proofs.YtedckphklebndaaGreatDoor
open Go
theorem strE_cut (v : List Int) : ∃ t, v = strE v ++ t ∧ ∀ c ∈ t, isSp c = true := by
  induction v with
  | nil => exact ⟨[], rfl, fun _ h => by cases h⟩
  | cons c v ih =>
    obtain ⟨t, ht, ha⟩ := ih
    by_cases q : strE v = [] ∧ isSp c = true
    · refine ⟨c :: v, by simp [strE, q], ?_⟩
      intro x hx
      rcases List.mem_cons.1 hx with rfl | hx
      · exact q.2
      · exact (strE_space v).1 q.1 x hx
    · have e : strE (c :: v) = c :: strE v := by simp only [strE]; rw [if_neg q]
      exact ⟨t, by rw [e, List.cons_append, ← ht], ha⟩
theorem strE_last (v : List Int) : ∀ p c, strE v = p ++ [c] → isSp c = false := by
  induction v with
  | nil => intro p c h; simp [strE] at h
  | cons a v ih =>
    intro p c h
    by_cases q : strE v = [] ∧ isSp a = true
    · simp [strE, q] at h
    · have e : strE (a :: v) = a :: strE v := by simp only [strE]; rw [if_neg q]
      rw [e] at h
      cases p with
      | nil =>
        rw [List.nil_append] at h
        injection h with h1 h2
        subst h1
        cases hs : isSp a with
        | false => rfl
        | true => exact absurd ⟨h2, hs⟩ q
      | cons b p =>
        injection h with h1 h2
        exact ih p c h2
theorem isSp_low {c : Int} (h : isSp c = true) : 1 ≤ c ∧ c < 128 := by
  unfold isSp isNL at h
  simp only [Bool.or_eq_true, beq_iff_eq] at h
  omega
theorem isSp_high {c : Int} (h : 128 ≤ c) : isSp c = false := by
  cases q : isSp c with
  | false => rfl
  | true => have := isSp_low q; omega
/-- Bytes of whitespace. -/
theorem encs_spaces {t : List Int} (h : ∀ c ∈ t, isSp c = true) : ∀ b ∈ encs t, isSp (b.toNat : Int) = true := by
  induction t with
  | nil => intro b hb; cases hb
  | cons c t ih =>
    intro b hb
    have hc := h c (List.mem_cons_self ..)
    have hl := isSp_low hc
    simp only [encs, enc_one (c := c) (by omega) hl.2, List.cons_append, List.nil_append, List.mem_cons] at hb
    rcases hb with rfl | hb
    · rw [toNat_u8 c (by omega) (by omega)]; exact hc
    · exact ih (fun x hx => h x (List.mem_cons_of_mem _ hx)) b hb
theorem enc_bytes {c : Int} (h : Rn c) (h2 : isSp c = false) : ∀ b ∈ enc c, isSp (b.toNat : Int) = false := by
  have key : ∀ z : Int, 128 ≤ z → z < 256 → isSp ((z.toNat.toUInt8.toNat : Nat) : Int) = false := fun z h0 h1 => by
    rw [toNat_u8 z (by omega) h1]; exact isSp_high h0
  intro b hb
  rcases h.kinds with ⟨a1, a2⟩ | ⟨a1, a2⟩ | a | ⟨a1, a2⟩
  · rw [enc_one a1 a2, List.mem_singleton] at hb
    subst hb
    rw [toNat_u8 c a1 (by omega)]; exact h2
  · rw [enc_two a1 a2] at hb
    simp only [List.mem_cons, List.not_mem_nil, or_false] at hb
    rcases hb with rfl | rfl <;> exact key _ (by omega) (by omega)
  · rw [enc_three a] at hb
    simp only [List.mem_cons, List.not_mem_nil, or_false] at hb
    rcases hb with rfl | rfl | rfl <;> exact key _ (by omega) (by omega)
  · rw [enc_four a1 a2] at hb
    simp only [List.mem_cons, List.not_mem_nil, or_false] at hb
    rcases hb with rfl | rfl | rfl | rfl <;> exact key _ (by omega) (by omega)
theorem enc_ne (c : Int) : enc c ≠ [] := by
  intro e
  have := (wd_pos c).1
  unfold wd at this
  rw [e] at this
  simp at this
theorem encs_snoc (p : List Int) (c : Int) : encs (p ++ [c]) = encs p ++ enc c := by rw [encs_append]; simp [encs]
/-- The address within its token: from i to j. -/
structure Adr (raw : ByteArray) (v : List Int) (i j : Nat) : Prop where
  le : 4 ≤ i ∧ i ≤ j ∧ j + 1 ≤ raw.size
  left : ∀ k, 4 ≤ k → k < i → ∀ h : k < raw.size, isSp ((raw[k]'h).toNat : Int) = true
  right : ∀ k, j ≤ k → k + 1 < raw.size → ∀ h : k < raw.size, isSp ((raw[k]'h).toNat : Int) = true
  first : i < j → ∀ h : i < raw.size, isSp ((raw[i]'h).toNat : Int) = false
  last : i < j → ∀ h : j - 1 < raw.size, isSp ((raw[j - 1]'h).toNat : Int) = false
  close : ∀ h : raw.size - 1 < raw.size, ((raw[raw.size - 1]'h).toNat : Int) = 41
  ext : (raw.extract i j).data.toList = encs (strE v)
  none : i = j → raw.size = j + 1
theorem ba_get {raw : ByteArray} {L : List UInt8} (hL : raw.data.toList = L) {k : Nat} (h : k < raw.size) : L[k]? = some (raw[k]'h) := by
  rw [← hL]; exact list_get_ba raw k h
theorem Adr.of {raw : ByteArray} {nm sp v : List Int} (hb : raw.data.toList = encs (nm ++ 40 :: (sp ++ (v ++ [41])))) (hv : RnAll v) (hn : (encs nm).length = 3) (hs : ∀ c ∈ sp, isSp c = true) (hh : isSp (hd v) = false) :
    Adr raw v (4 + (encs sp).length) (4 + (encs sp).length + (encs (strE v)).length) := by
  obtain ⟨t, ht, hta⟩ := strE_cut v
  have e40 : enc 40 = [40] := by rw [enc_one (by decide) (by decide)]; rfl
  have e41 : enc 41 = [41] := by rw [enc_one (by decide) (by decide)]; rfl
  have hL : raw.data.toList = (encs nm ++ [40]) ++ (encs sp ++ (encs (strE v) ++ (encs t ++ [41]))) := by
    rw [hb]
    rw [show nm ++ 40 :: (sp ++ (v ++ [41])) = nm ++ [40] ++ (sp ++ ((strE v ++ t) ++ [41])) by rw [← ht]; simp]
    simp only [encs_append, encs, e40, e41, List.append_nil, List.append_assoc]
  have hsz : raw.size = 4 + ((encs sp).length + ((encs (strE v)).length + ((encs t).length + 1))) := by
    have := congrArg List.length hL
    simp only [List.length_append, List.length_cons, List.length_nil] at this
    have hz : raw.data.toList.length = raw.size := by simp
    omega
  have h4 : (encs nm ++ [40]).length = 4 := by simp [hn]
  have hg : ∀ k (h : k < raw.size), some (raw[k]'h) = ((encs nm ++ [40]) ++ (encs sp ++ (encs (strE v) ++ (encs t ++ [41]))))[k]? := fun k h => (ba_get hL h).symm
  have hE : v ≠ [] → strE v ≠ [] := by
    intro hne e
    cases v with
    | nil => exact hne rfl
    | cons c u => have := (strE_space (c :: u)).1 e c (List.mem_cons_self ..); rw [hd_cons, this] at hh; cases hh
  have hpre : strE v <+: v := ⟨t, ht.symm⟩
  have hrn : RnAll (strE v) := by rw [ht] at hv; exact hv.left
  refine ⟨⟨by omega, by omega, by omega⟩, ?_, ?_, ?_, ?_, ?_, ?_, ?_⟩
  · intro k h1 h2 h
    have e := hg k h
    rw [List.getElem?_append_right (by omega), h4, List.getElem?_append_left (by omega)] at e
    exact encs_spaces hs _ (List.mem_of_getElem? e.symm)
  · intro k h1 h2 h
    have e := hg k h
    rw [List.getElem?_append_right (by omega), h4, List.getElem?_append_right (by omega), List.getElem?_append_right (by omega), List.getElem?_append_left (by omega)] at e
    exact encs_spaces hta _ (List.mem_of_getElem? e.symm)
  · intro h1 h
    have e := hg _ h
    rw [List.getElem?_append_right (by omega), h4, List.getElem?_append_right (by omega), List.getElem?_append_left (by omega)] at e
    have e0 : 4 + (encs sp).length - 4 - (encs sp).length = 0 := by omega
    rw [e0] at e
    cases hsv : strE v with
    | nil => rw [hsv] at h1; simp [encs] at h1
    | cons c p =>
      rw [hsv] at e hrn
      have hc : isSp c = false := by
        have h6 := strE_hd (t := v) (by rw [hsv]; simp)
        rw [hsv, hd_cons] at h6
        rw [h6]; exact hh
      refine enc_bytes hrn.head hc _ ?_
      obtain ⟨x, y, hxy⟩ : ∃ x y, enc c = x :: y := by
        cases q : enc c with
        | nil => exact absurd q (enc_ne c)
        | cons x y => exact ⟨x, y, rfl⟩
      rw [encs, hxy] at e
      simp only [List.cons_append, List.getElem?_cons_zero, Option.some.injEq] at e
      rw [e, hxy]; exact List.mem_cons_self ..
  · intro h1 h
    have e := hg _ h
    rw [List.getElem?_append_right (by omega), h4, List.getElem?_append_right (by omega), List.getElem?_append_left (by omega)] at e
    rcases List.eq_nil_or_concat (strE v) with q | ⟨p, c, q⟩
    · rw [q] at h1; simp [encs] at h1
    · rw [List.concat_eq_append] at q
      have hc := strE_last v p c q
      have hcr : Rn c := hrn c (by rw [q]; simp)
      refine enc_bytes hcr hc _ ?_
      have hlen : (encs (strE v)).length = (encs p).length + (enc c).length := by rw [q, encs_snoc, List.length_append]
      have hpos : 1 ≤ (enc c).length := (wd_pos c).1
      have key : ∀ (x : UInt8) (i : Nat), some x = (encs (strE v))[i]? → (encs p).length ≤ i → x ∈ enc c := by
        intro x i hx hi
        rw [q, encs_snoc, List.getElem?_append_right hi] at hx
        exact List.mem_of_getElem? hx.symm
      exact key _ _ e (by omega)
  · intro h
    have e := hg _ h
    rw [List.getElem?_append_right (by omega), h4, List.getElem?_append_right (by omega), List.getElem?_append_right (by omega), List.getElem?_append_right (by omega)] at e
    have e0 : raw.size - 1 - 4 - (encs sp).length - (encs (strE v)).length - (encs t).length = 0 := by omega
    rw [e0] at e
    simp only [List.getElem?_cons_zero, Option.some.injEq] at e
    rw [e]; rfl
  · rw [Lib.extract_data, hL]
    have e1 : (encs nm ++ [40] ++ (encs sp ++ (encs (strE v) ++ (encs t ++ [41])))).drop (4 + (encs sp).length) = encs (strE v) ++ (encs t ++ [41]) := by
      rw [← List.drop_drop, List.drop_left' h4, List.drop_left]
    rw [e1, List.take_left' (by omega)]
  · intro h1
    have e1 : (encs (strE v)).length = 0 := by omega
    have e2 : strE v = [] := by
      cases q : strE v with
      | nil => rfl
      | cons c p => rw [q, encs, List.length_append] at e1; have := (wd_pos c).1; unfold wd at this; omega
    have e3 : v = [] := by
      by_cases q : v = []
      · exact q
      · exact absurd e2 (hE q)
    rw [e3] at ht
    simp only [strE, List.nil_append] at ht
    rw [← ht] at hsz
    simp only [encs, List.length_nil] at hsz
    omega
end Go.Proofs.YtedckphklebndaaGreatDoor
/- The library's contracts that this program's texts call, taken off the kit's shelf at this program's numbers: each is one application. Conditions: each theorem's own. -/
namespace Go.Proofs
open Go.Shelf
def Tryz.lays169_ren : Go.Shelf.Ren := ⟨fun | 169 => 62 | n => n, fun | 70 => 123 | 9 => 9 | 0 => 0 | 72 => 126 | 37 => 124 | 127 => 148 | 3 => 3 | 5 => 5 | n => n, fun | n => n⟩
theorem Tryz.lays169 : Go.Proofs.Lays.n169 Tryz.prog Tryz.lays169_ren := {
  mixed := by kernel_rfl
  f169 := Tryz.func62.trans (congrArg some (by kernel_rfl))
  t0 := Tryz.underlying0
  a0 := Tryz.isAgg0
  z0 := Tryz.sizeOf0
  v0 := Tryz.zeroValue0
  t3 := Tryz.underlying3
  a3 := Tryz.isAgg3
  z3 := Tryz.sizeOf3
  v3 := Tryz.zeroValue3
  t9 := Tryz.underlying9
  a9 := Tryz.isAgg9
  z9 := Tryz.sizeOf9
  v9 := Tryz.zeroValue9
  t37 := Tryz.underlying124
  a37 := Tryz.isAgg124
  z37 := Tryz.sizeOf124
  v37 := Tryz.zeroValue124
  t70 := Tryz.underlying123
  a70 := Tryz.isAgg123
  z70 := Tryz.sizeOf123
  v70 := Tryz.zeroValue123
  t72 := Tryz.underlying126
  a72 := Tryz.isAgg126
  z72 := Tryz.sizeOf126
  v72 := Tryz.zeroValue126
  t127 := Tryz.underlying148
  a127 := Tryz.isAgg148
  z127 := Tryz.sizeOf148
  v127 := Tryz.zeroValue148 }
theorem Tryz.Builder_Extra_169 : Builder.Extra Tryz.prog Tryz.lays169_ren := {
  sizeBuilder := by kernel_rfl
  liesBuilder := by kernel_rfl
  t5 := Tryz.underlying5
  a5 := Tryz.isAgg5
  z5 := Tryz.sizeOf5
  v5 := Tryz.zeroValue5
  infoByte := by kernel_rfl
  cellsByte := by kernel_rfl
  sizeByte := by kernel_rfl
  neB5 := by decide }
open Go.RowKit in
theorem Tryz.Builder_String_any_k (B b : Nat) (l : List UInt8) (w : World) (h : Lib.IsBuilderF 126 5 B b (Lib.byteCells l) w) (hBw : B ≤ w.heap.size) :
    Calls Tryz.prog 62 #[.pointer (some ⟨b, 0, none⟩)] w fun e w' => e = .returned (.string ⟨l.toArray⟩) ∧ (Lib.IsBuilderF 126 5 B b (Lib.byteCells l) w' ∧ Below B w w' ∧ Lib.OthersKept 5 (some b) w w') := Any.Builder_String_any_k Tryz.lays169 Tryz.Builder_Extra_169 B b l w h hBw
def Tryz.lays156_ren : Go.Shelf.Ren := ⟨fun | 156 => 123 | 165 => 129 | 166 => 58 | 169 => 62 | 240 => 87 | 241 => 131 | 276 => 111 | 277 => 133 | n => n, fun | 31 => 174 | 9 => 9 | 3 => 3 | 4 => 4 | 0 => 0 | 20 => 20 | 72 => 126 | 76 => 129 | 70 => 123 | 37 => 124 | 75 => 128 | 127 => 148 | 164 => 153 | 5 => 5 | 80 => 98 | n => n, fun | n => n⟩
theorem Tryz.lays156 : Go.Proofs.Lays.n156 Tryz.prog Tryz.lays156_ren := {
  mixed := by kernel_rfl
  f156 := Tryz.func123.trans (congrArg some (by kernel_rfl))
  f165 := Tryz.func129.trans (congrArg some (by kernel_rfl))
  f166 := Tryz.func58.trans (congrArg some (by kernel_rfl))
  f169 := Tryz.func62.trans (congrArg some (by kernel_rfl))
  f240 := Tryz.func87.trans (congrArg some (by kernel_rfl))
  f241 := Tryz.func131.trans (congrArg some (by kernel_rfl))
  f276 := Tryz.func111.trans (congrArg some (by kernel_rfl))
  f277 := Tryz.func133.trans (congrArg some (by kernel_rfl))
  t0 := Tryz.underlying0
  a0 := Tryz.isAgg0
  z0 := Tryz.sizeOf0
  v0 := Tryz.zeroValue0
  t3 := Tryz.underlying3
  a3 := Tryz.isAgg3
  z3 := Tryz.sizeOf3
  v3 := Tryz.zeroValue3
  t4 := Tryz.underlying4
  a4 := Tryz.isAgg4
  z4 := Tryz.sizeOf4
  v4 := Tryz.zeroValue4
  t9 := Tryz.underlying9
  a9 := Tryz.isAgg9
  z9 := Tryz.sizeOf9
  v9 := Tryz.zeroValue9
  t20 := Tryz.underlying20
  a20 := Tryz.isAgg20
  z20 := Tryz.sizeOf20
  v20 := Tryz.zeroValue20
  t31 := Tryz.underlying174
  a31 := Tryz.isAgg174
  z31 := Tryz.sizeOf174
  v31 := Tryz.zeroValue174
  t37 := Tryz.underlying124
  a37 := Tryz.isAgg124
  z37 := Tryz.sizeOf124
  v37 := Tryz.zeroValue124
  t70 := Tryz.underlying123
  a70 := Tryz.isAgg123
  z70 := Tryz.sizeOf123
  v70 := Tryz.zeroValue123
  t72 := Tryz.underlying126
  a72 := Tryz.isAgg126
  z72 := Tryz.sizeOf126
  v72 := Tryz.zeroValue126
  t75 := Tryz.underlying128
  a75 := Tryz.isAgg128
  z75 := Tryz.sizeOf128
  v75 := Tryz.zeroValue128
  t76 := Tryz.underlying129
  a76 := Tryz.isAgg129
  z76 := Tryz.sizeOf129
  v76 := Tryz.zeroValue129
  t127 := Tryz.underlying148
  a127 := Tryz.isAgg148
  z127 := Tryz.sizeOf148
  v127 := Tryz.zeroValue148
  t164 := Tryz.underlying153
  a164 := Tryz.isAgg153
  z164 := Tryz.sizeOf153
  v164 := Tryz.zeroValue153 }
theorem Tryz.Builder_Extra_156 : Builder.Extra Tryz.prog Tryz.lays156_ren := {
  sizeBuilder := by kernel_rfl
  liesBuilder := by kernel_rfl
  t5 := Tryz.underlying5
  a5 := Tryz.isAgg5
  z5 := Tryz.sizeOf5
  v5 := Tryz.zeroValue5
  infoByte := by kernel_rfl
  cellsByte := by kernel_rfl
  sizeByte := by kernel_rfl
  neB5 := by decide }
open Go.RowKit in
theorem Tryz.strings_Join (bk o c : Nat) (xs : List ByteArray) (sep : ByteArray) (w : World) (hcells : ∀ (j : Nat) x, xs[j]? = some x → w.cell? ⟨bk, o + j, none⟩ = some (.string x)) (hbk : bk < w.heap.size) (hN : xs.length ≤ 140737488355328) (hcap : xs.length ≤ c) (hlen : (Lib.join (xs.map (·.data.toList)) sep.data.toList).length ≤ 140737488355328) :
    Calls Tryz.prog 123 #[.slice (some ⟨bk, o, none⟩) xs.length c, .string sep] w fun e w' => e = .returned (.string ⟨(Lib.join (xs.map (·.data.toList)) sep.data.toList).toArray⟩) ∧ Below w.heap.size w w' := Any.strings_Join Tryz.lays156 Tryz.Builder_Extra_156 bk o c xs sep w hcells hbk hN hcap hlen
def Tryz.lays99_ren : Go.Shelf.Ren := ⟨fun | 99 => 103 | 206 => 121 | n => n, fun | 9 => 9 | 4 => 4 | 3 => 3 | n => n, fun | n => n⟩
theorem Tryz.lays99 : Go.Proofs.Lays.n99 Tryz.prog Tryz.lays99_ren := {
  mixed := by kernel_rfl
  f99 := Tryz.func103.trans (congrArg some (by kernel_rfl))
  f206 := Tryz.func121.trans (congrArg some (by kernel_rfl))
  t3 := Tryz.underlying3
  a3 := Tryz.isAgg3
  z3 := Tryz.sizeOf3
  v3 := Tryz.zeroValue3
  t4 := Tryz.underlying4
  a4 := Tryz.isAgg4
  z4 := Tryz.sizeOf4
  v4 := Tryz.zeroValue4
  t9 := Tryz.underlying9
  a9 := Tryz.isAgg9
  z9 := Tryz.sizeOf9
  v9 := Tryz.zeroValue9 }
open Go.RowKit Go.Lib in
theorem Tryz.strings_HasPrefix (s p : ByteArray) (w : World) :
    Calls Tryz.prog 103 #[.string s, .string p] w fun e w' => e = .returned (.bool (Lib.hasPrefix s.data.toList p.data.toList)) ∧ w' = w := Any.strings_HasPrefix Tryz.lays99 s p w
def Tryz.lays197_ren : Go.Shelf.Ren := ⟨fun | 197 => 59 | 260 => 88 | n => n, fun | 9 => 9 | 21 => 21 | 3 => 3 | 4 => 4 | 5 => 5 | 105 => 131 | 119 => 165 | 0 => 0 | 46 => 91 | 139 => 168 | 138 => 167 | n => n, fun | 3 => 0 | 4 => 1 | n => n⟩
theorem Tryz.lays197 : Go.Proofs.Lays.n197 Tryz.prog Tryz.lays197_ren := {
  mixed := by kernel_rfl
  f197 := Tryz.func59.trans (congrArg some (by kernel_rfl))
  f260 := Tryz.func88.trans (congrArg some (by kernel_rfl))
  t0 := Tryz.underlying0
  a0 := Tryz.isAgg0
  z0 := Tryz.sizeOf0
  v0 := Tryz.zeroValue0
  t3 := Tryz.underlying3
  a3 := Tryz.isAgg3
  z3 := Tryz.sizeOf3
  v3 := Tryz.zeroValue3
  t4 := Tryz.underlying4
  a4 := Tryz.isAgg4
  z4 := Tryz.sizeOf4
  v4 := Tryz.zeroValue4
  t5 := Tryz.underlying5
  a5 := Tryz.isAgg5
  z5 := Tryz.sizeOf5
  v5 := Tryz.zeroValue5
  t9 := Tryz.underlying9
  a9 := Tryz.isAgg9
  z9 := Tryz.sizeOf9
  v9 := Tryz.zeroValue9
  t21 := Tryz.underlying21
  a21 := Tryz.isAgg21
  z21 := Tryz.sizeOf21
  v21 := Tryz.zeroValue21
  t46 := Tryz.underlying91
  a46 := Tryz.isAgg91
  z46 := Tryz.sizeOf91
  v46 := Tryz.zeroValue91
  t105 := Tryz.underlying131
  a105 := Tryz.isAgg131
  z105 := Tryz.sizeOf131
  v105 := Tryz.zeroValue131
  t119 := Tryz.underlying165
  a119 := Tryz.isAgg165
  z119 := Tryz.sizeOf165
  t138 := Tryz.underlying167
  a138 := Tryz.isAgg167
  z138 := Tryz.sizeOf167
  v138 := Tryz.zeroValue167
  t139 := Tryz.underlying168
  a139 := Tryz.isAgg168
  z139 := Tryz.sizeOf168
  v139 := Tryz.zeroValue168
  g3 := by kernel_rfl
  g4 := by kernel_rfl }
open Go.RowKit Go.Lib in
theorem Tryz.utf8_DecodeRuneInString (s : ByteArray) (w : World) (hT : Lib.Utf8Tabs 0 1 w) :
    Calls Tryz.prog 59 #[.string s] w fun e w' => e = .returned (.tuple #[.int .i32 (Lib.decodeGo s).1, .int .i64 (Lib.decodeGo s).2]) ∧ Below w.heap.size w w' := Any.utf8_DecodeRuneInString Tryz.lays197 s w hT
def Tryz.lays271_ren : Go.Shelf.Ren := ⟨fun | 271 => 122 | 120 => 128 | 197 => 59 | 260 => 88 | n => n, fun | 9 => 9 | 21 => 21 | 3 => 3 | 4 => 4 | 5 => 5 | 105 => 131 | 119 => 165 | 0 => 0 | 46 => 91 | 139 => 168 | 138 => 167 | n => n, fun | 3 => 0 | 4 => 1 | n => n⟩
theorem Tryz.lays271 : Go.Proofs.Lays.n271 Tryz.prog Tryz.lays271_ren := {
  mixed := by kernel_rfl
  f120 := Tryz.func128.trans (congrArg some (by kernel_rfl))
  f197 := Tryz.func59.trans (congrArg some (by kernel_rfl))
  f260 := Tryz.func88.trans (congrArg some (by kernel_rfl))
  f271 := Tryz.func122.trans (congrArg some (by kernel_rfl))
  t0 := Tryz.underlying0
  a0 := Tryz.isAgg0
  z0 := Tryz.sizeOf0
  v0 := Tryz.zeroValue0
  t3 := Tryz.underlying3
  a3 := Tryz.isAgg3
  z3 := Tryz.sizeOf3
  v3 := Tryz.zeroValue3
  t4 := Tryz.underlying4
  a4 := Tryz.isAgg4
  z4 := Tryz.sizeOf4
  v4 := Tryz.zeroValue4
  t5 := Tryz.underlying5
  a5 := Tryz.isAgg5
  z5 := Tryz.sizeOf5
  v5 := Tryz.zeroValue5
  t9 := Tryz.underlying9
  a9 := Tryz.isAgg9
  z9 := Tryz.sizeOf9
  v9 := Tryz.zeroValue9
  t21 := Tryz.underlying21
  a21 := Tryz.isAgg21
  z21 := Tryz.sizeOf21
  v21 := Tryz.zeroValue21
  t46 := Tryz.underlying91
  a46 := Tryz.isAgg91
  z46 := Tryz.sizeOf91
  v46 := Tryz.zeroValue91
  t105 := Tryz.underlying131
  a105 := Tryz.isAgg131
  z105 := Tryz.sizeOf131
  v105 := Tryz.zeroValue131
  t119 := Tryz.underlying165
  a119 := Tryz.isAgg165
  z119 := Tryz.sizeOf165
  t138 := Tryz.underlying167
  a138 := Tryz.isAgg167
  z138 := Tryz.sizeOf167
  v138 := Tryz.zeroValue167
  t139 := Tryz.underlying168
  a139 := Tryz.isAgg168
  z139 := Tryz.sizeOf168
  v139 := Tryz.zeroValue168
  g3 := by kernel_rfl
  g4 := by kernel_rfl }
open Go.RowKit Go.Lib in
theorem Tryz.utf8_DecodeLastRuneInString (s : ByteArray) (w : World) (hs : s.size ≤ 9223372036854775807) (hT : Lib.Utf8Tabs 0 1 w) :
    Calls Tryz.prog 122 #[.string s] w fun e w' => e = .returned (.tuple #[.int .i32 (Lib.decodeLastL s.data.toList).1, .int .i64 (Lib.decodeLastL s.data.toList).2]) ∧ Below w.heap.size w w' := Any.utf8_DecodeLastRuneInString Tryz.lays271 s w hs hT
def Tryz.lays166_ren : Go.Shelf.Ren := ⟨fun | 166 => 58 | 240 => 87 | 276 => 111 | n => n, fun | 0 => 0 | 3 => 3 | 4 => 4 | 9 => 9 | 20 => 20 | 37 => 124 | 70 => 123 | 72 => 126 | 75 => 128 | 164 => 153 | 5 => 5 | 80 => 98 | n => n, fun | n => n⟩
theorem Tryz.lays166 : Go.Proofs.Lays.n166 Tryz.prog Tryz.lays166_ren := {
  mixed := by kernel_rfl
  f166 := Tryz.func58.trans (congrArg some (by kernel_rfl))
  f240 := Tryz.func87.trans (congrArg some (by kernel_rfl))
  f276 := Tryz.func111.trans (congrArg some (by kernel_rfl))
  t0 := Tryz.underlying0
  a0 := Tryz.isAgg0
  z0 := Tryz.sizeOf0
  v0 := Tryz.zeroValue0
  t3 := Tryz.underlying3
  a3 := Tryz.isAgg3
  z3 := Tryz.sizeOf3
  v3 := Tryz.zeroValue3
  t4 := Tryz.underlying4
  a4 := Tryz.isAgg4
  z4 := Tryz.sizeOf4
  v4 := Tryz.zeroValue4
  t9 := Tryz.underlying9
  a9 := Tryz.isAgg9
  z9 := Tryz.sizeOf9
  v9 := Tryz.zeroValue9
  t20 := Tryz.underlying20
  a20 := Tryz.isAgg20
  z20 := Tryz.sizeOf20
  v20 := Tryz.zeroValue20
  t37 := Tryz.underlying124
  a37 := Tryz.isAgg124
  z37 := Tryz.sizeOf124
  v37 := Tryz.zeroValue124
  t70 := Tryz.underlying123
  a70 := Tryz.isAgg123
  z70 := Tryz.sizeOf123
  v70 := Tryz.zeroValue123
  t72 := Tryz.underlying126
  a72 := Tryz.isAgg126
  z72 := Tryz.sizeOf126
  v72 := Tryz.zeroValue126
  t75 := Tryz.underlying128
  a75 := Tryz.isAgg128
  z75 := Tryz.sizeOf128
  v75 := Tryz.zeroValue128
  t164 := Tryz.underlying153
  a164 := Tryz.isAgg153
  z164 := Tryz.sizeOf153
  v164 := Tryz.zeroValue153 }
theorem Tryz.Builder_Extra_166 : Builder.Extra Tryz.prog Tryz.lays166_ren := {
  sizeBuilder := by kernel_rfl
  liesBuilder := by kernel_rfl
  t5 := Tryz.underlying5
  a5 := Tryz.isAgg5
  z5 := Tryz.sizeOf5
  v5 := Tryz.zeroValue5
  infoByte := by kernel_rfl
  cellsByte := by kernel_rfl
  sizeByte := by kernel_rfl
  neB5 := by decide }
open Go.RowKit in
theorem Tryz.Builder_WriteString_k (B b : Nat) (bs : List Value) (s : ByteArray) (w : World) (h : Lib.IsBuilderF 126 5 B b bs w) (hlen : bs.length + s.size ≤ 140737488355328) (hBw : B ≤ w.heap.size) :
    Calls Tryz.prog 58 #[.pointer (some ⟨b, 0, none⟩), .string s] w fun e w' => e = .returned (.tuple #[.int .i64 s.size, .nilIface]) ∧ (Lib.BuilderAtF 126 5 B b (.pointer (some ⟨b, 0, none⟩)) (bs ++ Lib.strCells s) w' ∧ Below B w w' ∧ Lib.OthersKept 5 (some b) w w') := Any.Builder_WriteString_k Tryz.lays166 Tryz.Builder_Extra_166 B b bs s w h hlen hBw
def Tryz.lays168_ren : Go.Shelf.Ren := ⟨fun | 168 => 60 | 240 => 87 | 242 => 89 | 276 => 111 | 278 => 112 | n => n, fun | 0 => 0 | 3 => 3 | 4 => 4 | 5 => 5 | 9 => 9 | 20 => 20 | 21 => 21 | 37 => 124 | 46 => 91 | 51 => 86 | 70 => 123 | 72 => 126 | 75 => 128 | 164 => 153 | 80 => 98 | n => n, fun | n => n⟩
theorem Tryz.lays168 : Go.Proofs.Lays.n168 Tryz.prog Tryz.lays168_ren := {
  mixed := by kernel_rfl
  f168 := Tryz.func60.trans (congrArg some (by kernel_rfl))
  f240 := Tryz.func87.trans (congrArg some (by kernel_rfl))
  f242 := Tryz.func89.trans (congrArg some (by kernel_rfl))
  f276 := Tryz.func111.trans (congrArg some (by kernel_rfl))
  f278 := Tryz.func112.trans (congrArg some (by kernel_rfl))
  t0 := Tryz.underlying0
  a0 := Tryz.isAgg0
  z0 := Tryz.sizeOf0
  v0 := Tryz.zeroValue0
  t3 := Tryz.underlying3
  a3 := Tryz.isAgg3
  z3 := Tryz.sizeOf3
  v3 := Tryz.zeroValue3
  t4 := Tryz.underlying4
  a4 := Tryz.isAgg4
  z4 := Tryz.sizeOf4
  v4 := Tryz.zeroValue4
  t5 := Tryz.underlying5
  a5 := Tryz.isAgg5
  z5 := Tryz.sizeOf5
  v5 := Tryz.zeroValue5
  t9 := Tryz.underlying9
  a9 := Tryz.isAgg9
  z9 := Tryz.sizeOf9
  v9 := Tryz.zeroValue9
  t20 := Tryz.underlying20
  a20 := Tryz.isAgg20
  z20 := Tryz.sizeOf20
  v20 := Tryz.zeroValue20
  t21 := Tryz.underlying21
  a21 := Tryz.isAgg21
  z21 := Tryz.sizeOf21
  v21 := Tryz.zeroValue21
  t37 := Tryz.underlying124
  a37 := Tryz.isAgg124
  z37 := Tryz.sizeOf124
  v37 := Tryz.zeroValue124
  t46 := Tryz.underlying91
  a46 := Tryz.isAgg91
  z46 := Tryz.sizeOf91
  v46 := Tryz.zeroValue91
  t51 := Tryz.underlying86
  a51 := Tryz.isAgg86
  z51 := Tryz.sizeOf86
  v51 := Tryz.zeroValue86
  t70 := Tryz.underlying123
  a70 := Tryz.isAgg123
  z70 := Tryz.sizeOf123
  v70 := Tryz.zeroValue123
  t72 := Tryz.underlying126
  a72 := Tryz.isAgg126
  z72 := Tryz.sizeOf126
  v72 := Tryz.zeroValue126
  t75 := Tryz.underlying128
  a75 := Tryz.isAgg128
  z75 := Tryz.sizeOf128
  v75 := Tryz.zeroValue128
  t164 := Tryz.underlying153
  a164 := Tryz.isAgg153
  z164 := Tryz.sizeOf153
  v164 := Tryz.zeroValue153 }
theorem Tryz.Builder_Extra_168 : Builder.Extra Tryz.prog Tryz.lays168_ren := {
  sizeBuilder := by kernel_rfl
  liesBuilder := by kernel_rfl
  t5 := Tryz.underlying5
  a5 := Tryz.isAgg5
  z5 := Tryz.sizeOf5
  v5 := Tryz.zeroValue5
  infoByte := by kernel_rfl
  cellsByte := by kernel_rfl
  sizeByte := by kernel_rfl
  neB5 := by decide }
open Go.RowKit in
theorem Tryz.Builder_WriteRune_k (B b : Nat) (bs : List Value) (r : Int) (hr0 : -2147483648 ≤ r) (hr1 : r ≤ 2147483647) (w : World) (h : Lib.IsBuilderF 126 5 B b bs w) (hlen : bs.length + 4 ≤ 140737488355328) (hBw : B ≤ w.heap.size) :
    Calls Tryz.prog 60 #[.pointer (some ⟨b, 0, none⟩), .int .i32 r] w fun e w' => e = .returned (.tuple #[.int .i64 (Lib.runeCells r).length, .nilIface]) ∧ (Lib.BuilderAtF 126 5 B b (.pointer (some ⟨b, 0, none⟩)) (bs ++ Lib.runeCells r) w' ∧ Below B w w' ∧ Lib.OthersKept 5 (some b) w w') := Any.Builder_WriteRune_k Tryz.lays168 Tryz.Builder_Extra_168 B b bs r hr0 hr1 w h hlen hBw
end Go.Proofs
/- The package's lexer in memory, and its step. Conditions: the tables of unicode/utf8 lie in blocks 0 and 1; a plain text of at most 2^30 bytes. -/
namespace Go.Proofs.YtedckphklebndaaGreatDoor
open Go Go.RowKit
/-- The lexer's cells: 'r' has those that turn seldom. -/
def lxA (r : Nat → Value) (s : ByteArray) (nl cur cp st len : Int) : Array Value :=
  #[r 0, r 1, r 2, r 3, r 4, r 5, r 6, r 7, r 8, r 9, .string s, r 11, r 12, r 13, r 14, r 15, r 16, r 17, r 18, r 19, r 20, r 21, r 22, r 23, r 24, r 25, r 26, r 27, r 28, r 29, r 30, r 31,
    .int .i64 nl, .int .i64 cur, r 34, .int .i32 cp, .int .i32 st, .int .i32 len, r 38, r 39, r 40]
def LX (w : World) (g : Nat) (s : ByteArray) (r : Nat → Value) (st : Nat) (nl : Int) (l : List Int) : Prop :=
  w.heap[g]? = some (.cells (lxA r s nl (ps s l.tail) (hd l) st ((ps s l : Int) - st)) 120 (0, 0))
/-- One cell that turns seldom is set. -/
def up (r : Nat → Value) (k : Nat) (v : Value) : Nat → Value := fun j => if j = k then v else r j
structure LA (w0 w : World) (g : Nat) (s : ByteArray) (r : Nat → Value) (st : Nat) (l : List Int) : Prop where
  lx : ∃ nl : Int, 0 ≤ nl ∧ nl ≤ ps s l.tail ∧ LX w g s r st nl l
  sfx : Sfx s l
  kp : KeepB g w0 w
  size : s.size ≤ 1073741824
  tabs : Lib.Utf8Tabs 0 1 w
  big : 2 ≤ g
  from_ : st ≤ ps s l
/-- The lexer ahead of a step: which code point it has, and how much, does not matter. -/
structure LB (w0 w : World) (g : Nat) (s : ByteArray) (r : Nat → Value) (st : Nat) (t : List Int) : Prop where
  lx : ∃ nl cp len : Int, 0 ≤ nl ∧ nl ≤ ps s t ∧ w.heap[g]? = some (.cells (lxA r s nl (ps s t) cp st len) 120 (0, 0))
  sfx : Sfx s t
  kp : KeepB g w0 w
  size : s.size ≤ 1073741824
  tabs : Lib.Utf8Tabs 0 1 w
  big : 2 ≤ g
  from_ : st ≤ ps s t
theorem LA.lb {w0 w : World} {g : Nat} {s : ByteArray} {r : Nat → Value} {st : Nat} {l : List Int} (h : LA w0 w g s r st l) : LB w0 w g s r st l.tail := by
  obtain ⟨nl, n0, n1, hL⟩ := h.lx
  have h1 := h.from_
  have h2 : ps s l ≤ ps s l.tail := by
    cases l with
    | nil => exact Nat.le_refl _
    | cons c t => have := ps_cons h.sfx; simp only [List.tail_cons]; omega
  exact ⟨⟨nl, _, _, n0, n1, hL⟩, h.sfx.tl, h.kp, h.size, h.tabs, h.big, Nat.le_trans h1 h2⟩
/-- What the library's decoder says at a place. -/
def rn (l : List Int) : Int := if l = [] then 65533 else hd l
theorem dec_sfx {s : ByteArray} {l : List Int} (h : Sfx s l) (w : World) (hT : Lib.Utf8Tabs 0 1 w) :
    Calls Tryz.prog 59 #[.string (s.extract (ps s l) s.size)] w fun e w' => e = .returned (.tuple #[.int .i32 (rn l), .int .i64 (wdl l)]) ∧ Below w.heap.size w w' := by
  have hc := Tryz.utf8_DecodeRuneInString (s.extract (ps s l) s.size) w hT
  have hl := h.bytes
  have hsz : s.data.toList.length = s.size := by simp
  have hx : (s.extract (ps s l) s.size).data.toList = encs l := by
    rw [Lib.extract_data, List.take_of_length_le (by rw [List.length_drop]; omega), hl]
  have h2 : Lib.decodeGo (s.extract (ps s l) s.size) = if l = [] then (65533, 0) else ((hd l).toNat, wd (hd l)) := by
    unfold Lib.decodeGo
    cases l with
    | nil =>
      have : (s.extract (ps s []) s.size).size = 0 := by
        rw [Lib.size_eq, hx]; rfl
      rw [if_pos this, if_pos rfl]
    | cons c t =>
      have hw := wd_pos c
      have : (s.extract (ps s (c :: t)) s.size).size ≠ 0 := by
        rw [Lib.size_eq, hx]
        simp only [encs, List.length_append]
        unfold wd at hw
        omega
      rw [if_neg this, if_neg (by simp), ← Lib.decodeL_drop, List.drop_zero, hx]
      exact decodeL_enc h.all.head _
  rw [h2] at hc
  refine hc.mono ?_
  rintro e w' ⟨rfl, hb⟩
  refine ⟨?_, hb⟩
  cases l with
  | nil => rfl
  | cons c t =>
    have := h.all.head.1
    simp only [if_neg (show ¬ (c :: t = []) by simp), rn, hd_cons, wdl]
    rw [Int.toNat_of_nonneg (by omega)]
theorem tabs_keep {w w1 : World} {S : Nat → Prop} (h : Lib.Utf8Tabs 0 1 w) (k : Keep S w w1) (h0 : ¬ S 0) (h1 : ¬ S 1) : Lib.Utf8Tabs 0 1 w1 :=
  ⟨fun c hc => k.cell (h.1 c hc) h0, fun i hi => ⟨k.cell (h.2 i hi).1 h1, k.cell (h.2 i hi).2 h1⟩⟩
theorem wdl_le (l : List Int) : wdl l ≤ 4 := by
  cases l with
  | nil => simp [wdl]
  | cons c t => exact (wd_pos c).2
theorem wdl_pos {l : List Int} (h : l ≠ []) : 1 ≤ wdl l := by
  cases l with
  | nil => exact absurd rfl h
  | cons c t => exact (wd_pos c).1
theorem LB.turn {w : World} {g : Nat} {s : ByteArray} {r : Nat → Value} {st : Nat} {nl cur0 cp0 len0 : Int} (h : w.heap[g]? = some (.cells (lxA r s nl cur0 cp0 st len0) 120 (0, 0))) {cp cur : Int} {t : List Int} (h1 : cp = hd t) (h2 : cur = ps s t.tail) :
    LX (((w.setCell ⟨g, 35, none⟩ (.int .i32 cp)).setCell ⟨g, 37, none⟩ (.int .i32 ((ps s t : Int) - st))).setCell ⟨g, 33, none⟩ (.int .i64 cur)).drew g s r st nl t := by
  subst h1 h2
  exact (blk_set (blk_set (blk_set h 35 _) 37 _) 33 _).trans rfl
theorem LB.step {w0 w wc : World} {g : Nat} {s : ByteArray} {r : Nat → Value} {st : Nat} {t : List Int} {nl cp0 len0 : Int} (h : LB w0 w g s r st t) (hk : KeepA w wc) (hL : wc.heap[g]? = some (.cells (lxA r s nl (ps s t) cp0 st len0) 120 (0, 0))) (n0 : 0 ≤ nl) (n1 : nl ≤ ps s t)
    {cp cur : Int} (h1 : cp = hd t) (h2 : cur = ps s t.tail) :
    LA w0 (((wc.setCell ⟨g, 35, none⟩ (.int .i32 cp)).setCell ⟨g, 37, none⟩ (.int .i32 ((ps s t : Int) - st))).setCell ⟨g, 33, none⟩ (.int .i64 cur)).drew g s r st t := by
  have hb := h.big
  have h4 := ps_step h.sfx
  have hK : KeepB g w (((wc.setCell ⟨g, 35, none⟩ (.int .i32 cp)).setCell ⟨g, 37, none⟩ (.int .i32 ((ps s t : Int) - st))).setCell ⟨g, 33, none⟩ (.int .i64 cur)).drew :=
    ((((hk.mono (S' := fun k => k = g) (fun _ _ e => e.elim)).setCell (p := ⟨g, 35, none⟩) (fun _ => rfl) _).setCell (p := ⟨g, 37, none⟩) (fun _ => rfl) _).setCell (p := ⟨g, 33, none⟩) (fun _ => rfl) _).drew
  exact ⟨⟨nl, n0, by omega, LB.turn hL h1 h2⟩, h.sfx, h.kp.trans hK, h.size, tabs_keep h.tabs hK (by omega) (by omega), h.big, h.from_⟩
theorem LB.stepn {w0 w wc : World} {g : Nat} {s : ByteArray} {r : Nat → Value} {st : Nat} {t : List Int} {nl cp0 len0 : Int} (h : LB w0 w g s r st t) (hk : KeepA w wc) (hL : wc.heap[g]? = some (.cells (lxA r s nl (ps s t) cp0 st len0) 120 (0, 0))) (n0 : 0 ≤ nl)
    {cp cur : Int} (h1 : cp = hd t) (h2 : cur = ps s t.tail) (h5 : nl + 1 ≤ ps s t.tail) :
    LA w0 ((((wc.setCell ⟨g, 32, none⟩ (.int .i64 (nl + 1))).setCell ⟨g, 35, none⟩ (.int .i32 cp)).setCell ⟨g, 37, none⟩ (.int .i32 ((ps s t : Int) - st))).setCell ⟨g, 33, none⟩ (.int .i64 cur)).drew g s r st t := by
  have hb := h.big
  have hK : KeepB g w ((((wc.setCell ⟨g, 32, none⟩ (.int .i64 (nl + 1))).setCell ⟨g, 35, none⟩ (.int .i32 cp)).setCell ⟨g, 37, none⟩ (.int .i32 ((ps s t : Int) - st))).setCell ⟨g, 33, none⟩ (.int .i64 cur)).drew :=
    (((((hk.mono (S' := fun k => k = g) (fun _ _ e => e.elim)).setCell (p := ⟨g, 32, none⟩) (fun _ => rfl) _).setCell (p := ⟨g, 35, none⟩) (fun _ => rfl) _).setCell (p := ⟨g, 37, none⟩) (fun _ => rfl) _).setCell (p := ⟨g, 33, none⟩) (fun _ => rfl) _).drew
  have hL2 : (wc.setCell ⟨g, 32, none⟩ (.int .i64 (nl + 1))).heap[g]? = some (.cells (lxA r s (nl + 1) (ps s t) cp0 st len0) 120 (0, 0)) := (blk_set hL 32 _).trans rfl
  exact ⟨⟨nl + 1, by omega, h5, LB.turn hL2 h1 h2⟩, h.sfx, h.kp.trans hK, h.size, tabs_keep h.tabs hK (by omega) (by omega), h.big, h.from_⟩
set_option maxRecDepth 100000 in
set_option maxHeartbeats 2000000 in
theorem step_lb {w0 w : World} {g : Nat} {s : ByteArray} {r : Nat → Value} {st : Nat} {t : List Int} (h : LB w0 w g s r st t) :
    Calls Tryz.prog 56 #[.pointer (some ⟨g, 0, none⟩)] w fun e w' => e = .returned (.tuple #[]) ∧ LA w0 w' g s r st t := by
  obtain ⟨nl, cp0, len0, n0, n1, hL⟩ := h.lx
  have c10 : w.cell? ⟨g, 10, none⟩ = some (.string s) := (blk_cell hL 10).trans rfl
  have c33 : w.cell? ⟨g, 33, none⟩ = some (.int .i64 (ps s t)) := (blk_cell hL 33).trans rfl
  have b1 := ps_le s t
  have b2 : ps s t ≤ 1073741824 := Nat.le_trans b1 h.size
  go_enter Tryz.func56, Tryz.ntmps56
  go_wp2_with fail
  go_cut [2, 3] (fun u2 u3 wc => u2 = .int .i32 (rn t) ∧ u3 = .int .i64 (wdl t) ∧ KeepA w wc)
  case first =>
    go_region_with (first | (go_at_call 59; refine (dec_sfx h.sfx w.drew h.tabs).mono ?_; rintro e w1 ⟨rfl, hbel⟩))
    all_goals
      go_wp2_with fail
      go_meet
      case rel => exact ⟨rfl, rfl, (Keep.refl _ _).drew.trans (Keep.of_below hbel _)⟩
  case rest =>
    obtain ⟨rfl, rfl, hk⟩ := hcut
    have hL1 : wc.heap[g]? = some (.cells (lxA r s nl (ps s t) cp0 st len0) 120 (0, 0)) := hk.blk hL (fun e => e)
    clear c10 c33
    have c32 : wc.cell? ⟨g, 32, none⟩ = some (.int .i64 nl) := (blk_cell hL1 32).trans rfl
    have c33 : wc.cell? ⟨g, 33, none⟩ = some (.int .i64 (ps s t)) := (blk_cell hL1 33).trans rfl
    have c36 : wc.cell? ⟨g, 36, none⟩ = some (.int .i32 st) := (blk_cell hL1 36).trans rfl
    have c35 : wc.cell? ⟨g, 35, none⟩ = some (.int .i32 cp0) := (blk_cell hL1 35).trans rfl
    have c37 : wc.cell? ⟨g, 37, none⟩ = some (.int .i32 len0) := (blk_cell hL1 37).trans rfl
    have f32 := blk_frozen hL1 32
    have f33 := blk_frozen hL1 33
    have f35 := blk_frozen hL1 35
    have f37 := blk_frozen hL1 37
    have hst2 := h.from_
    have b4 := ps_step h.sfx
    have b5 := ps_le s t.tail
    have b6 : ps s t.tail ≤ 1073741824 := Nat.le_trans b5 h.size
    have B4 := Lib.hid b4
    have b7 := wdl_le t
    have HN := Lib.hid hL1
    have b9 : ps s t + wdl t ≤ 1073741824 := by omega
    clear hL hL1 b4 b5 b6
    by_cases hz : t = []
    · have k1 : ((wdl t : Int) == 0) = true := by rw [hz]; rfl
      have k2 : rn t = 65533 := by rw [hz]; rfl
      have k3 : (-1 : Int) = hd t := by rw [hz]; rfl
      have HZ := Lib.hid k3
      clear hz k3
      go_wp2_with fail
      go_region
      all_goals
        go_wp2_with fail
        go_end0
        refine ⟨rfl, ?_⟩
        refine LB.step h hk HN.out n0 n1 HZ.out ?_
        have := B4.out; omega
    · have k1 : ((wdl t : Int) == 0) = false := by have := wdl_pos hz; simp only [beq_eq_false_iff_ne]; omega
      have k2 : rn t = hd t := if_neg hz
      have HZ := Lib.hid hz
      clear hz
      by_cases h10 : hd t = 10
      · have k3 : (hd t == 10) = true := by simp [h10]
        have kn : nl + 1 ≤ 1073741825 := by omega
        clear h10
        go_wp2_with fail
        go_region
        all_goals
          go_wp2_with fail
          go_end0
          refine ⟨rfl, ?_⟩
          refine LB.stepn h hk HN.out n0 rfl ?_ ?_
          · have := B4.out; omega
          · have := wdl_pos HZ.out; have := B4.out; omega
      · have k3 : (hd t == 10) = false := by simp [h10]
        clear h10
        go_wp2_with fail
        go_region
        all_goals
          go_wp2_with fail
          go_end0
          refine ⟨rfl, ?_⟩
          refine LB.step h hk HN.out n0 n1 rfl ?_
          have := B4.out; omega
theorem step_la {w0 w : World} {g : Nat} {s : ByteArray} {r : Nat → Value} {st : Nat} {l : List Int} (h : LA w0 w g s r st l) :
    Calls Tryz.prog 56 #[.pointer (some ⟨g, 0, none⟩)] w fun e w' => e = .returned (.tuple #[]) ∧ LA w0 w' g s r st l.tail := step_lb h.lb
end Go.Proofs.YtedckphklebndaaGreatDoor
