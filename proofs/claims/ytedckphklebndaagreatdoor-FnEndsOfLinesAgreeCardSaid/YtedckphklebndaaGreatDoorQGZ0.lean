/- The laws in plain lists: a token's letters alone; what is compared of a text made of others. No program in sight. -/
import Derived.Test.YtedckphklebndaaGreatDoorQGX5
import Derived.Test.YtedckphklebndaaGreatDoorQGR3
import Derived.Test.YtedckphklebndaaGreatDoorQGG
import Derived.Deep.AppendLies
import Derived.Deep.RegionHeld3
namespace Go.Proofs.YtedckphklebndaaGreatDoor
open Go
theorem ptoks_len (l : List Int) : (ptoks l).length ≤ l.length := by
  induction hn : l.length using Nat.strongRecOn generalizing l with
  | _ n ih =>
    by_cases e : (cmtsF l).1 = []
    · rw [ptoks_nil e]; simp
    · have h2 := endF_lt e
      have hle := cmtsF_le l
      rw [ptoks_cons e, List.length_cons]
      have := ih _ (by omega) (endF (cmtsF l).1) rfl
      omega
/-! ### texts -/
theorem Sfx.cut {s : ByteArray} {u r : List Int} (h : Sfx s (u ++ r)) : (s.extract (ps s (u ++ r)) (ps s r)).data.toList = encs u ∧ ps s (u ++ r) ≤ ps s r := by
  have h1 := ps_append h
  refine ⟨?_, by omega⟩
  rw [Lib.extract_data, h.bytes, encs_append, h1, Nat.add_sub_cancel_left, List.take_left' rfl]
theorem enc_bom : enc 65279 = [239, 187, 191] := by
  rw [enc_three (by decide)]; decide
theorem ptoks_hd {l : List Int} {t : Tok × List Int × List Int} (h : t ∈ ptoks l) : ¬ (hd t.2.1 = 47 ∧ pk t.2.1 1 = 42) := by
  induction hn : l.length using Nat.strongRecOn generalizing l with
  | _ n ih =>
    by_cases e : (cmtsF l).1 = []
    · rw [ptoks_nil e] at h; cases h
    · have h2 := endF_lt e
      have hle := cmtsF_le l
      rw [ptoks_cons e] at h
      rcases List.mem_cons.1 h with rfl | h
      · exact cmtsF_hd l
      · exact ih _ (by omega) h rfl
theorem closeF_cut {r : List Int} (v w : List Int) : closeF (v ++ r) = some (w ++ r) → closeF v = some w := by
  induction v generalizing w with
  | nil =>
    intro h
    have := closeF_le h
    simp at this
    omega
  | cons c t ih =>
    intro h
    simp only [List.cons_append] at h
    unfold closeF at h ⊢
    split at h
    · rename_i e
      injection h with h
      cases t with
      | nil =>
        simp only [List.nil_append] at h e
        have : r.tail.length = (w ++ r).length := by rw [h]
        rw [List.length_append, List.length_tail] at this
        have : r ≠ [] := by rintro rfl; simp at e
        have : 0 < r.length := by cases r with
          | nil => exact absurd rfl this
          | cons a b => simp
        omega
      | cons d t =>
        simp only [List.cons_append, hd_cons, List.tail_cons] at h e
        rw [if_pos (by simpa using e)]
        rw [List.tail_cons, List.append_cancel_right h]
    · rename_i e
      cases t with
      | nil =>
        rw [List.nil_append] at h
        have := closeF_le h
        simp at this
        omega
      | cons d t =>
        rw [if_neg (by simpa using e)]
        exact ih w h
theorem ptoks_nil' : ptoks [] = [] := ptoks_nil (by rw [cmtsF_stop (by simp)])
theorem toks_nil' : toks [] = ([], false) := by rw [toks_nil (by rw [cmtsF_stop (by simp)]), cmtsF_stop (by simp)]
theorem sp_app {a b : List Int} (h : ∀ c ∈ a, isSp c = true) : spaceF (a ++ b) = spaceF b := by
  unfold spaceF
  induction a with
  | nil => rfl
  | cons c a ih =>
    rw [List.cons_append, List.dropWhile_cons_of_pos (h c (List.mem_cons_self ..))]
    exact ih (fun x hx => h x (List.mem_cons_of_mem _ hx))
theorem hd_sp {a b : List Int} (h : ∀ c ∈ a, isSp c = true) (hne : a ≠ []) : isSp (hd (a ++ b)) = true := by
  cases a with
  | nil => exact absurd rfl hne
  | cons c a => exact h c (List.mem_cons_self ..)
/-- Spaces ahead of a text leave it open or not as it is. -/
theorem toks_sp {a b : List Int} (h : ∀ c ∈ a, isSp c = true) (hb : isSp (hd b) = false) : (toks (a ++ b)).2 = (toks b).2 := by
  by_cases hne : a = []
  · rw [hne, List.nil_append]
  · have h1 := hd_sp (b := b) h hne
    have h0 : cmtsF (a ++ b) = (a ++ b, false) := cmtsF_stop (by rintro ⟨e, _⟩; rw [e] at h1; exact absurd h1 (by decide))
    have h2 : (cmtsF (a ++ b)).1 ≠ [] := by rw [h0]; cases a with
      | nil => exact absurd rfl hne
      | cons c a => simp
    rw [toks_cons h2, h0]
    simp only
    rw [nextF_space h1, sp_app h]
    have h3 : spaceF b = b := spaceF_stop hb
    rw [h3]
    simp
/-- Whitespace with its comments, alone. -/
theorem ws_cut {u r : List Int} (ho : (toks (u ++ r)).2 = false) (h : wsF (u ++ r) = r) : wsF u = [] ∧ (toks u).2 = false := by
  induction hn : u.length using Nat.strongRecOn generalizing u with
  | _ n ih =>
    obtain ⟨sp, hsp, hall⟩ := spaceF_app (u ++ r)
    by_cases h1 : hd (spaceF (u ++ r)) = 47 ∧ pk (spaceF (u ++ r)) 1 = 42
    · cases hc : closeF ((spaceF (u ++ r)).drop 2) with
      | none =>
        exfalso
        rw [hsp, toks_sp hall (by rw [h1.1]; decide)] at ho
        have := (toks_false ho).1
        rw [cmtsF_none h1 hc] at this
        cases this
      | some r' =>
        have hcm := cmtsF_some h1 hc
        have hw := wsF_some h1 hc
        rw [h] at hw
        have hs1 : r <:+ r' := by rw [hw]; exact wsF_suf r'
        obtain ⟨u', hu'⟩ := hs1
        obtain ⟨m, hm⟩ : ∃ m, spaceF (u ++ r) = 47 :: 42 :: m := by
          cases q : spaceF (u ++ r) with
          | nil => rw [q] at h1; simp at h1
          | cons a t =>
            rw [q] at h1
            cases t with
            | nil => simp [pk] at h1
            | cons b t => simp only [hd_cons, pk_cons, pk_zero] at h1; exact ⟨t, by rw [h1.1, h1.2]⟩
        rw [hm] at hc h1 hsp hcm
        have hc2 : closeF m = some r' := hc
        obtain ⟨v, hv⟩ := closeF_suf hc2
        have hx : u = sp ++ 47 :: 42 :: (v ++ u') := by
          apply cut_eq (r := r)
          rw [hsp, ← hv, ← hu']; simp
        have hc3 : closeF (v ++ u') = some u' := by
          apply closeF_cut (r := r)
          rw [hu', ← hc2, ← hv, ← hu', List.append_assoc]
        have ho' : (toks (u' ++ r)).2 = false := by
          rw [hsp, toks_sp hall rfl, toks_of_cmts hcm] at ho
          rw [hu']; exact ho
        have hI := ih u'.length (by rw [← hn, hx]; simp; omega) ho' (by rw [hu', ← hw]) rfl
        have hsu : spaceF u = 47 :: 42 :: (v ++ u') := by
          rw [hx, sp_app hall]; exact spaceF_stop rfl
        have h5 : hd (spaceF u) = 47 ∧ pk (spaceF u) 1 = 42 := by rw [hsu]; exact ⟨rfl, rfl⟩
        have h6 : closeF ((spaceF u).drop 2) = some u' := by rw [hsu]; exact hc3
        refine ⟨by rw [wsF_some h5 h6]; exact hI.1, ?_⟩
        rw [hx, toks_sp hall rfl, toks_of_cmts (b := u') (cmtsF_some (l := 47 :: 42 :: (v ++ u')) ⟨rfl, rfl⟩ hc3)]
        exact hI.2
    · rw [wsF_stop h1] at h
      rw [h] at hsp
      have hu : u = sp := List.append_cancel_right hsp
      have hsu : spaceF u = [] := by
        have := sp_app (b := []) (a := u) (by rw [hu]; exact hall)
        rw [List.append_nil] at this
        rw [this]; rfl
      refine ⟨by rw [wsF_stop (by rw [hsu]; simp), hsu], ?_⟩
      have := toks_sp (a := u) (b := []) (by rw [hu]; exact hall) rfl
      rw [List.append_nil] at this
      rw [this, toks_nil']
/-- A token's letters, alone, are this token. -/
theorem tok_alone {l : List Int} {t : Tok × List Int × List Int} {u : List Int} (h : t ∈ ptoks l) (ho : (toks l).2 = false) (hu : t.2.1 = u ++ t.2.2) (h2 : t.1.kind ≠ 2) (h92 : u ≠ [92]) (hx : ¬ (t.1.kind = 27 ∧ isUrl t.1.text = true)) :
    (toks u).2 = false ∧ ptoks u = [(t.1, u, [])] := by
  obtain ⟨hne, hsuf, hk, he, hop⟩ := mem_ptoks h ho
  have hcm := ptoks_hd h
  have hlt := endF_lt hne
  rw [← he] at hlt
  have hu0 : u ≠ [] := by
    rintro rfl
    rw [hu] at hlt
    simp at hlt
  have hcu : ¬ (hd u = 47 ∧ pk u 1 = 42) := by
    rintro ⟨e1, e2⟩
    apply hcm
    rw [hu]
    cases u with
    | nil => exact absurd rfl hu0
    | cons a u =>
      cases u with
      | nil => simp [pk] at e2
      | cons b u => exact ⟨e1, e2⟩
  have hc : cmtsF u = (u, false) := cmtsF_stop hcu
  have hcn : (cmtsF u).1 ≠ [] := by rw [hc]; exact hu0
  rw [ptoks_cons hcn, hc]
  simp only
  have hhd : hd t.2.1 = hd u := by
    rw [hu]
    cases u with
    | nil => exact absurd rfl hu0
    | cons a u => rfl
  cases hsp : isSp (hd u) with
  | true =>
    have h3 : endF t.2.1 = wsF t.2.1 := by unfold endF; rw [if_pos (by rw [hhd]; exact hsp)]
    have h4 : endF u = wsF u := by unfold endF; rw [if_pos hsp]
    have hom : (toks t.2.1).2 = false := tok_open h ho
    rw [hu] at hom h3
    rw [hu, h3] at he
    have hw := ws_cut hom he.symm
    rw [h4, hw.1, ptoks_nil', hk, nextF_space hsp, nextF_space (by rw [hhd]; exact hsp)]
    exact ⟨hw.2, rfl⟩
  | false =>
    have h3 : endF t.2.1 = (nextF t.2.1).2.1 := by unfold endF; rw [if_neg (by rw [hhd, hsp]; decide)]
    have h4 : endF u = (nextF u).2.1 := by unfold endF; rw [if_neg (by rw [hsp]; decide)]
    have hN : nextF (u ++ t.2.2) = (t.1, t.2.2, false) := by
      rw [← hu]; exact Prod.ext hk.symm (Prod.ext (by rw [he, h3]) hop)
    have hC := nextF_cut hu0 hN h2 h92 hx
    rw [h4, hC, ptoks_nil']
    refine ⟨?_, rfl⟩
    rw [toks_cons hcn, hc]
    simp only
    rw [hC, toks_nil']
    rfl
theorem abs_app (a b : List (Tok × List Int × List Int)) : abs_ (a ++ b) = abs_ a ++ abs_ b := List.map_append
theorem abs_ext (a : List (Tok × List Int × List Int)) (x : List Int) : abs_ (a.map (fun t => (t.1, t.2.1 ++ x, t.2.2 ++ x))) = abs_ a := by
  unfold abs_; rw [List.map_map]; rfl
theorem view_app {x : List Int} (h : CH x) {a : List Int} (ha : (toks a).2 = false) : (toks (a ++ x)).2 = (toks x).2 ∧ view (a ++ x) = mrg abW false (view a ++ view x) := by
  have e := toks_ext h a ha
  refine ⟨by rw [e], ?_⟩
  unfold view
  rw [e, abs_app, abs_ext, mrg_append, ← mrg_append_right]
theorem toks_par (b : List Int) : toks (47 :: 42 :: 42 :: 47 :: b) = toks b := toks_of_cmts (cmtsF_some ⟨rfl, rfl⟩ (by simp [closeF]))
theorem view_par (b : List Int) : view (47 :: 42 :: 42 :: 47 :: b) = view b := by unfold view; rw [toks_par]
/-- A comment between two texts. -/
theorem parts_view {a b : List Int} (ha : (toks a).2 = false) (hb : (toks b).2 = false) : (toks (a ++ 47 :: 42 :: 42 :: 47 :: b)).2 = false ∧ view (a ++ 47 :: 42 :: 42 :: 47 :: b) = mrg abW false (view a ++ view b) := by
  have h := view_app (x := 47 :: 42 :: 42 :: 47 :: b) (.inr ⟨_, rfl⟩) ha
  rw [toks_par, view_par] at h
  exact ⟨h.1.trans hb, h.2⟩
def Wsp : Ab := ⟨38, false, [], 0⟩
theorem toks_space' {m : List Int} (h : isSp (hd m) = true) : (toks m).2 = (toks (spaceF m)).2 ∧ abs_ (toks m).1 = Wsp :: abs_ (toks (spaceF m)).1 := by
  have h0 : cmtsF m = (m, false) := cmtsF_stop (by rintro ⟨e, _⟩; rw [e] at h; exact absurd h (by decide))
  have h2 : (cmtsF m).1 ≠ [] := by rw [h0]; rintro rfl; exact absurd h (by decide)
  rw [toks_cons h2, h0]
  simp only
  rw [nextF_space h]
  exact ⟨by simp, rfl⟩
theorem mrg_sp (m : List Int) : mrg abW true (abs_ (toks (spaceF m)).1) = mrg abW true (abs_ (toks m).1) ∧ (toks (spaceF m)).2 = (toks m).2 := by
  cases h : isSp (hd m) with
  | true =>
    have e := toks_space' h
    rw [e.2, e.1]
    exact ⟨rfl, rfl⟩
  | false => rw [spaceF_stop h]; exact ⟨rfl, rfl⟩
/-- Whitespace ahead of a text. -/
theorem view_sp (m : List Int) : (toks (32 :: 9 :: m)).2 = (toks m).2 ∧ view (32 :: 9 :: m) = mrg abW false (Wsp :: view m) := by
  have e := toks_space' (m := 32 :: 9 :: m) rfl
  have hs : spaceF (32 :: 9 :: m) = spaceF m := sp_app (a := [32, 9]) (b := m) (by decide)
  rw [hs] at e
  refine ⟨e.1.trans (mrg_sp m).2, ?_⟩
  unfold view
  rw [e.2]
  have k := mrg_append_right abW [Wsp] (abs_ (toks m).1) false
  simp only [List.cons_append, List.nil_append] at k
  rw [k]
  simp only [mrg, Bool.and_false, Bool.false_eq_true, if_false]
  rw [show abW Wsp = true from rfl, (mrg_sp m).1]
theorem toks_nl : (toks [10]).2 = false ∧ view [10] = [Wsp] := by
  have e := toks_space' (m := [10]) (by decide)
  have hs : spaceF [10] = [] := by decide
  rw [hs, toks_nil'] at e
  refine ⟨e.1, ?_⟩
  unfold view
  rw [e.2]
  rfl
/-- Whitespace ahead of a text and behind it. -/
theorem spaces_view {a : List Int} (ha : (toks a).2 = false) : (toks (32 :: 9 :: (a ++ [47, 42, 42, 47, 10]))).2 = false ∧ view (32 :: 9 :: (a ++ [47, 42, 42, 47, 10])) = mrg abW false (Wsp :: (view a ++ [Wsp])) := by
  have h := parts_view ha toks_nl.1
  rw [toks_nl.2] at h
  have k := view_sp (a ++ [47, 42, 42, 47, 10])
  refine ⟨k.1.trans h.1, ?_⟩
  rw [k.2, h.2]
  exact mrg_append_right abW [Wsp] _ false
/-! ### a comment between all tokens -/
def cm : List Int := [47, 42, 32, 120, 32, 42, 47]
def lets (t : Tok × List Int × List Int) : List Int := t.2.1.take (t.2.1.length - t.2.2.length)
theorem lets_eq {l : List Int} {t : Tok × List Int × List Int} (h : t ∈ ptoks l) (ho : (toks l).2 = false) : t.2.1 = lets t ++ t.2.2 := by
  obtain ⟨_, _, _, he, _⟩ := mem_ptoks h ho
  obtain ⟨u, hu⟩ : t.2.2 <:+ t.2.1 := by rw [he]; exact endF_suf _
  unfold lets
  rw [← hu]
  simp
def bet (ts : List (Tok × List Int × List Int)) : List Int := ts.flatMap (fun t => lets t ++ cm)
theorem bet_snoc (ts : List (Tok × List Int × List Int)) (t : Tok × List Int × List Int) : bet (ts ++ [t]) = bet ts ++ (lets t ++ cm) := by simp [bet]
theorem toks_cm (b : List Int) : toks (cm ++ b) = toks b := toks_of_cmts (cmtsF_some (l := cm ++ b) ⟨rfl, rfl⟩ (by simp [cm, closeF]))
theorem view_one {u : List Int} {t : Tok} (h : (toks u).2 = false) (h2 : ptoks u = [(t, u, [])]) : view u = [ab t] := by rw [← ptoks_view h, h2]; rfl
theorem between {ts : List (Tok × List Int × List Int)} (h : ∀ t ∈ ts, (toks (lets t)).2 = false ∧ view (lets t) = [ab t.1]) : (toks (bet ts)).2 = false ∧ view (bet ts) = mrg abW false (abs_ ts) := by
  induction ts with
  | nil => exact ⟨by rw [show bet [] = [] from rfl, toks_nil'], by unfold view; rw [show bet [] = [] from rfl, toks_nil']⟩
  | cons t ts ih =>
    have hI := ih (fun x hx => h x (List.mem_cons_of_mem _ hx))
    have ht := h t (List.mem_cons_self ..)
    have hb : bet (t :: ts) = lets t ++ (cm ++ bet ts) := by simp [bet]
    have hv := view_app (x := cm ++ bet ts) (.inr ⟨_, rfl⟩) ht.1
    have hw : view (cm ++ bet ts) = view (bet ts) := by unfold view; rw [toks_cm]
    rw [toks_cm, hw, ht.2, hI.2, mrg_append_right] at hv
    rw [hb]
    exact ⟨hv.1.trans hI.1, hv.2⟩
/-! ### bounds -/
theorem signK_ge (c : Int) : 0 ≤ signK c := by
  unfold signK
  repeat' split
  all_goals omega
theorem encs_suf {a b : List Int} (h : a <:+ b) : (encs a).length ≤ (encs b).length := by
  obtain ⟨u, rfl⟩ := h
  rw [encs_append, List.length_append]; omega
structure TB (l : List Int) (t : Tok) : Prop where
  k0 : 0 ≤ t.kind
  k1 : t.kind < 256
  u0 : 0 ≤ t.unit
  u1 : t.unit ≤ (encs l).length
theorem TB.kd {l : List Int} {k : Int} (h0 : 0 ≤ k) (h1 : k < 256) (i : Bool) (x : List UInt8) : TB l { kind := k, id := i, text := x } := ⟨h0, h1, Int.le_refl _, by simp⟩
theorem urlF_t (l : List Int) : ∀ out, (urlF out l).1 = { kind := 37, text := (urlF out l).1.text } ∨ (urlF out l).1 = { kind := 3 } := by
  induction hn : l.length using Nat.strongRecOn generalizing l with
  | _ n ih =>
    intro out
    cases l with
    | nil => rw [urlF]; exact .inl rfl
    | cons c t =>
      have e3 := escF_le t
      simp only [List.length_cons] at hn
      rw [urlF]
      split
      · exact .inl rfl
      · split
        · split
          · exact .inl rfl
          · split
            · exact .inl rfl
            · exact .inr rfl
        · split
          · exact .inr rfl
          · split
            · exact ih (escF t).2.1.length (by omega) _ rfl (out ++ enc (escF t).1)
            · exact ih t.length (by omega) t rfl (out ++ enc c)
theorem quotF_t (q : Int) (l : List Int) : ∀ out, (quotF q out l).1 = { kind := 36, text := (quotF q out l).1.text } ∨ (quotF q out l).1 = { kind := 2 } := by
  induction hn : l.length using Nat.strongRecOn generalizing l with
  | _ n ih =>
    intro out
    cases l with
    | nil => rw [quotF]; exact .inl rfl
    | cons c t =>
      have e3 := escF_le t
      have e4 := nlTake_le t
      simp only [List.length_cons] at hn
      rw [quotF]
      split
      · exact .inl rfl
      · split
        · exact .inr rfl
        · split
          · split
            · exact ih (nlTake t).length (by omega) _ rfl out
            · split
              · exact .inl rfl
              · exact ih (escF t).2.1.length (by omega) _ rfl (out ++ enc (escF t).1)
          · exact ih t.length (by omega) t rfl (out ++ enc c)
theorem nextF_b (l : List Int) : TB l (nextF l).1 := by
  unfold nextF
  split
  · exact TB.kd (by decide) (by decide) _ _
  · split
    · exact TB.kd (by decide) (by decide) _ _
    · split
      · rcases quotF_t (hd l) l.tail [] with e | e <;> rw [e] <;> exact TB.kd (by decide) (by decide) _ _
      · split
        · exact TB.kd (by decide) (by decide) _ _
        · split
          · unfold numF; split
            · have := encs_suf (num4_suf l)
              exact ⟨show (0 : Int) ≤ 26 by decide, show (26 : Int) < 256 by decide, by simp only; omega, by simp only; omega⟩
            · split <;> exact TB.kd (by decide) (by decide) _ _
          · split
            · exact TB.kd (by decide) (by decide) _ _
            · split
              · unfold namedF; split
                · split
                  · show TB l (urlF [] (spaceF (nameF l).2.1.tail)).1
                    rcases urlF_t (spaceF (nameF l).2.1.tail) [] with e | e <;> rw [e] <;> exact TB.kd (by decide) (by decide) _ _
                  · exact TB.kd (by decide) (by decide) _ _
                · exact TB.kd (by decide) (by decide) _ _
              · split
                · exact TB.kd (by decide) (by decide) _ _
                · split
                  · exact TB.kd (by decide) (by decide) _ _
                  · have := signK_lt (hd l); exact TB.kd (signK_ge _) (by omega) _ _
theorem mem_toks {l : List Int} {t : Tok × List Int × List Int} (h : t ∈ (toks l).1) : t.2.1 <:+ l ∧ t.1 = (nextF t.2.1).1 := by
  induction hn : l.length using Nat.strongRecOn generalizing l with
  | _ n ih =>
    by_cases e : (cmtsF l).1 = []
    · rw [toks_nil e] at h; cases h
    · have h1 := nextF_lt e
      have hle := cmtsF_le l
      rw [toks_cons e] at h
      simp only at h
      rcases List.mem_cons.1 h with rfl | h
      · exact ⟨cmtsF_suf l, rfl⟩
      · have := ih _ (by omega) h rfl
        exact ⟨this.1.trans ((nextF_suf _).trans (cmtsF_suf l)), this.2⟩
theorem toks_unit {l : List Int} {t : Tok × List Int × List Int} (h : t ∈ (toks l).1) (hl : (encs l).length ≤ 65535) : t.1.unit % 65536 = t.1.unit := by
  obtain ⟨h1, h2⟩ := mem_toks h
  have := nextF_b t.2.1
  rw [← h2] at this
  have h3 := encs_suf h1
  have := this.u0
  have := (nextF_b t.2.1).u1
  rw [← h2] at this
  omega
theorem ptoks_b {l : List Int} {t : Tok × List Int × List Int} (h : t ∈ ptoks l) (ho : (toks l).2 = false) : TB l t.1 := by
  obtain ⟨_, hs, hk, _, _⟩ := mem_ptoks h ho
  have := nextF_b t.2.1
  rw [← hk] at this
  exact ⟨this.k0, this.k1, this.u0, by have := this.u1; have := encs_suf hs; omega⟩
end Go.Proofs.YtedckphklebndaaGreatDoor
/- What the laws compare of rows of tokens, in plain lists. No condition; no program in sight. -/
namespace Go.Proofs.YtedckphklebndaaGreatDoor
open Go Go.RowKit
/-- A token of the laws stands for one of the package. -/
def PR (s : ByteArray) (t : Tok × List Int × List Int) (p : PT) : Prop :=
  p.k = t.1.kind ∧ p.a = ps s t.2.1 ∧ p.b = ps s t.2.2 ∧ p.u = t.1.unit % 65536 ∧ p.id = t.1.id ∧ (hasT t.1.kind = true → p.t.data.toList = t.1.text)
/-- What is compared. -/
def abP (p : PT) : Ab := ⟨p.k, p.id, if hasT p.k then p.t.data.toList else [], if p.k = 26 then p.u else 0⟩
theorem alikeB_of {p q : PT} (h : abP p = abP q) : alikeB p q = true := by
  unfold abP at h
  injection h with h1 h2 h3 h4
  unfold alikeB
  rw [← h1] at h3 h4
  simp only [h1, h2, beq_self_eq_true, Bool.true_and, Bool.and_eq_true, ByteArray.toList_eq]
  rw [← h1]
  constructor
  · cases e : hasT p.k with
    | false => rfl
    | true => rw [e] at h3; simpa using h3
  · by_cases e : p.k = 26
    · rw [if_pos e, if_pos e] at h4; rw [h4]; simp
    · simp [e]
theorem al2_of {a b : List PT} (h : a.map abP = b.map abP) : al2 a b = true := by
  induction a generalizing b with
  | nil =>
    cases b with
    | nil => rfl
    | cons q b => cases h
  | cons p a ih =>
    cases b with
    | nil => cases h
    | cons q b =>
      simp only [List.map_cons, List.cons.injEq] at h
      simp only [al2]
      rw [alikeB_of h.1, ih h.2]; rfl
theorem mrgP_abs (L : List PT) : (mrgP L).map abP = mrg abW false (L.map abP) := (mrg_map wh abW abP (fun _ => rfl) L false).symm
theorem allAlike_of {a b : List PT} (h : mrg abW false (a.map abP) = mrg abW false (b.map abP)) : allAlikeB a b = true :=
  al2_of (by rw [mrgP_abs, mrgP_abs, h])
theorem PR.ab {s : ByteArray} {t : Tok × List Int × List Int} {p : PT} (h : PR s t p) : abP p = ab t.1 := by
  obtain ⟨h1, _, _, h4, h5, h6⟩ := h
  unfold abP Proofs.YtedckphklebndaaGreatDoor.ab
  rw [h1, h4, h5]
  cases e : hasT t.1.kind with
  | false => rfl
  | true => rw [h6 e]
theorem PR.abs {s : ByteArray} {ts : List (Tok × List Int × List Int)} {L : List PT} (h : Fa2 (PR s) ts L) : L.map abP = abs_ ts := by
  induction h with
  | nil => rfl
  | cons h _ ih => unfold abs_ at ih ⊢; rw [List.map_cons, List.map_cons, ih, h.ab]
theorem PR.view {s : ByteArray} {l : List Int} {L : List PT} (h : Fa2 (PR s) (ptoks l) L) (ho : (toks l).2 = false) : L.map abP = view l := by
  rw [PR.abs h, ptoks_view ho]
theorem Fa2.len {α β : Type} {R : α → β → Prop} {a : List α} {b : List β} (h : Fa2 R a b) : a.length = b.length := by
  induction h with
  | nil => rfl
  | cons _ _ ih => simp [ih]
theorem mrg_fix {α β : Type} {p : α → Bool} {q : β → Bool} {R : α → β → Prop} (hR : ∀ x y, R x y → p x = q y) {a : List α} {b : List β} (hf : Fa2 R a b) : ∀ w, mrg p w a = a → mrg q w b = b := by
  induction hf with
  | nil => intro w _; rfl
  | cons hs hr ih =>
    rename_i x y xs ys
    intro w e
    have hk := hR x y hs
    simp only [mrg] at e ⊢
    rw [← hk]
    split
    · rename_i e2
      rw [if_pos e2] at e
      exfalso
      have := mrg_len_le p xs w
      rw [e] at this
      simp at this
      omega
    · rename_i e2
      rw [if_neg e2] at e
      injection e with _ e
      rw [ih _ e]
theorem PR.wh {s : ByteArray} {t : Tok × List Int × List Int} {p : PT} (h : PR s t p) : isW t = Proofs.YtedckphklebndaaGreatDoor.wh p := by
  unfold isW Proofs.YtedckphklebndaaGreatDoor.wh; rw [h.1]
/-- The package's tokens are merged already. -/
theorem PR.merged {s : ByteArray} {l : List Int} {L : List PT} (h : Fa2 (PR s) (ptoks l) L) (ho : (toks l).2 = false) : mrgP L = L :=
  mrg_fix (fun _ _ k => k.wh) h false (ptoks_merged ho)
end Go.Proofs.YtedckphklebndaaGreatDoor
/- One row of tokens behind another one. Conditions: rows of at most 2^40 tokens. -/
namespace Go.Proofs.YtedckphklebndaaGreatDoor
open Go Go.RowKit
theorem rowC_one (L : List PT) : ∀ u ∈ rowC L, u.oneCell' = true := by
  intro u hu
  obtain ⟨p, _, hp⟩ := List.mem_flatMap.1 hu
  simp only [PT.cells, List.mem_cons, List.mem_nil_iff, or_false] at hp
  rcases hp with rfl | rfl | rfl | rfl | rfl | rfl <;> rfl
theorem rowC_app (A C : List PT) : rowC (A ++ C) = rowC A ++ rowC C := List.flatMap_append
theorem run_append_none (ty : TypeId) (p : Option Addr) (n cap : Nat) (h : n ≤ cap) (w : World) : (Builtin.append_ #[24, 24] ty #[.slice p n cap, .slice none 0 0]).run Tryz.prog w = .ok (.slice p n cap) w := by
  cases p with
  | none => simp [Builtin.append_, go_sem, Builtin.lenOf, Builtin.firstCells, h]
  | some a => simp [Builtin.append_, go_sem, Builtin.lenOf, Builtin.firstCells, h, storeCells]
/-- One row behind another one. -/
theorem run_append_rw {w : World} {B B2 : Nat} {v x : Value} {A C : List PT} {ty : TypeId} (h1 : Rw w B v A) (h2 : Rw w B2 x C) (hlen : A.length + C.length ≤ 1099511627776) (hB : B ≤ w.heap.size) :
    ∃ v' w', (Builtin.append_ #[24, 24] ty #[v, x]).run Tryz.prog w = .ok v' w' ∧ Rw w' B v' (A ++ C) ∧ w.grownBy w' v.ownBlock := by
  rcases h2.2 with ⟨rfl, hn⟩ | ⟨g, cap, cur, rfl, hb, hg, hc, hm, hs, ht⟩
  · have hC : C = [] := List.length_eq_zero_iff.1 hn
    subst hC
    have hv : ∃ p n c, v = .slice p n c ∧ n ≤ c := by
      rcases h1.2 with ⟨rfl, _⟩ | ⟨_, cap, _, rfl, _, _, h, _⟩
      · exact ⟨none, 0, 0, rfl, Nat.le_refl _⟩
      · exact ⟨_, _, cap, rfl, h⟩
    obtain ⟨p, n, c, rfl, hnc⟩ := hv
    exact ⟨_, w, run_append_none ty p n c hnc w, by rw [List.append_nil]; exact h1, ⟨rfl, rfl, rfl, Nat.le_refl _, fun _ _ _ => rfl⟩⟩
  · obtain ⟨i0, hi0, hz0, hz1, hz2⟩ := info_parts info28
    have hnews : ∀ j u, (rowC C)[j]? = some u → w.cell? ((⟨g, 0, none⟩ : Addr).add j) = some u := by
      intro j u hu
      refine World.news_of_block hg j u ?_
      rw [← ht] at hu
      have hj : j < C.length * 6 := by
        have := (List.getElem?_eq_some_iff.1 hu).1
        simp at this
        omega
      rw [List.getElem?_take_of_lt hj] at hu
      exact hu
    obtain ⟨v', w', hr, ho, hgr, _⟩ := run_append_own (P := Tryz.prog) w B 24 ty 28 i0 _ 6 56 Tryz.underlying24 hi0 hz0 hz1 hz2 rfl (by decide) v A.length (rowC A) h1 ⟨g, 0, none⟩ C.length cap (rowC C) (rowC_len C) hnews (rowC_one C) (by unfold maxLen; omega) (by omega) hB
    refine ⟨v', w', hr, ?_, hgr⟩
    unfold Rw
    rw [rowC_app, List.length_append]
    exact ho
theorem wp_append_rw {o : Oper} {a : Act} {K : Act → World → Prop} {Q : Exit → Act → World → Prop} {w : World} {B B2 : Nat} {v x : Value} {A C : List PT} (s y : Operand) (ho : o.op = .call { callee := .builtin .append, args := #[s, y], argTypes := #[24, 24] }) (hs : a.eval s = v) (hy : a.eval y = x)
    (h1 : Rw w B v A) (h2 : Rw w B2 x C) (hlen : A.length + C.length ≤ 1099511627776) (hB : B ≤ w.heap.size) (h : ∀ v' w', Rw w' B v' (A ++ C) → w.grownBy w' v.ownBlock → K (a.put o.dst v') w') : o.wp Tryz.prog a w K Q := by
  obtain ⟨v', w', hr, h3, h4⟩ := run_append_rw (ty := o.type) h1 h2 hlen hB
  unfold Oper.wp execOp
  simp only [ho, resolve, invoke, builtin, Sem.run_bind, Sem.run_pure, Result.andThen_ok, List.map_toArray, List.map_cons, List.map_nil, hs, hy, hr]
  exact h v' w' h3 h4
theorem wpList_append_rw {ops : Array Oper} {rest : List Oper} {o : Oper} {a : Act} {Q : Exit → Act → World → Prop} {w : World} {B B2 : Nat} {v x : Value} {A C : List PT} (hgd : o.guard = none) (s y : Operand) (ho : o.op = .call { callee := .builtin .append, args := #[s, y], argTypes := #[24, 24] }) (hs : a.eval s = v) (hy : a.eval y = x)
    (h1 : Rw w B v A) (h2 : Rw w B2 x C) (hlen : A.length + C.length ≤ 1099511627776) (hB : B ≤ w.heap.size) (h : ∀ v' w', Rw w' B v' (A ++ C) → w.grownBy w' v.ownBlock → wpList Tryz.prog ops Q rest (a.put o.dst v') w') : wpList Tryz.prog ops Q (o :: rest) a w :=
  wpList_plain hgd fun _ hK => wp_append_rw s y ho hs hy h1 h2 hlen hB fun v' w' h3 h4 => hK _ _ (h v' w' h3 h4)
/-- What is appended to grows; all below stays. -/
theorem Rw.grown {w w' : World} {B W : Nat} {v : Value} {A : List PT} (h : Rw w B v A) (hg : w.grownBy w' v.ownBlock) (hW : W ≤ B) (hWw : W ≤ w.heap.size) : Below W w w' :=
  (Keep.of_grown hg (fun k => v.ownBlock = some k) (fun _ e => e)).below hWw (fun k _ e => Nat.le_trans hW (h.lt k e).1)
end Go.Proofs.YtedckphklebndaaGreatDoor
/- The lexer with its log in memory (LQ); AddError, AddID, AddIDWithNotes walked. Conditions: those of the lexer in memory, of the log and of the tracker (LQ). -/
namespace Go.Proofs.YtedckphklebndaaGreatDoor
open Go Go.RowKit
/-- Where the log lies. -/
structure LK where
  kd : Nat
  mu : Nat
  he : Nat
  ms : Nat
def LK.val (k : LK) : List Value := logA k.kd k.mu k.he k.ms
/-- The cells of the source map's comment are of one cell each. -/
def SpC (r : Nat → Value) : Prop := (r 19).oneCell' = true ∧ (r 20).oneCell' = true ∧ (r 21).oneCell' = true
/-- The lexer with its log and its rows: of the blocks that were there in w0 those of S may have changed; the tracker has read up to lt; so many messages and comments at most. -/
structure LQ (S : Nat → Prop) (B : Nat) (k : LK) (w0 w : World) (g : Nat) (s : ByteArray) (r : Nat → Value) (st : Nat) (l lt : List Int) (q : Nat) : Prop where
  la : LA w w g s r st l
  kp : Keep S w0 w
  new : ∀ j, w0.heap.size ≤ j → S j
  sg : S g
  hB : B ≤ w.heap.size
  lo : 2 ≤ B ∧ 2 ≤ k.mu ∧ 2 ≤ k.he ∧ 2 ≤ k.ms
  tr : TR s r lt
  c0 : r 0 = .bool true ∧ SpC r
  c1 : ∀ j, j < 6 → r (j + 1) = k.val.getD j undef
  log : ∃ v, LogB B k.kd k.mu k.he k.ms q v w ∧ S k.mu ∧ S k.he ∧ S k.ms ∧ ∀ j, v.ownBlock = some j → S j
  all : ∃ n xs, w.ownsRow B 50 2 (r 17) n xs ∧ n ≤ q ∧ ∀ j, (r 17).ownBlock = some j → S j
  leg : ∃ n xs, w.ownsRow B 122 3 (r 18) n xs ∧ n ≤ q ∧ (∀ j, (r 18).ownBlock = some j → S j) ∧ ∀ u ∈ xs, u.oneCell' = true
section
variable {S : Nat → Prop} {B : Nat} {k : LK} {w0 w w1 : World} {g : Nat} {s : ByteArray} {r r' : Nat → Value} {st st' : Nat} {l l' lt : List Int} {q : Nat}
/-- A change within the lexer's own block. -/
theorem LQ.step' (h : LQ S B k w0 w g s r st l lt q) (a : LA w w1 g s r' st' l') (hr : ∀ j, j ≤ 18 → r' j = r j) (hp : SpC r') {lt' : List Int} (ht : TR s r' lt') : LQ S B k w0 w1 g s r' st' l' lt' q := by
  obtain ⟨nl, _, _, hL⟩ := h.la.lx
  obtain ⟨v, hl, s1, s2, s3, s4⟩ := h.log
  obtain ⟨n1, x1, o1, m1, t1⟩ := h.all
  obtain ⟨n2, x2, o2, m2, t2⟩ := h.leg
  obtain ⟨b, hhe⟩ := hl.hhe
  obtain ⟨nm, xm, om, mm⟩ := hl.own
  refine ⟨a.now, h.kp.trans (a.kp.mono (fun j _ e => by rw [e]; exact h.sg)), h.new, h.sg, Nat.le_trans h.hB a.kp.size, h.lo, ht, ⟨by rw [hr 0 (by omega)]; exact h.c0.1, hp⟩, fun j hj => by rw [hr _ (by omega)]; exact h.c1 j hj, ?_, ?_, ?_⟩
  · exact ⟨v, hl.keep a.kp (blk_ne hl.hkd hL (by decide)) (blk_ne hl.hmu hL (by decide)) (blk_ne hhe hL (by decide)) (blk_ne hl.hms hL (by decide)) (fun j e1 e2 => own_ne om hL (by decide) (by rw [e1, e2])), s1, s2, s3, s4⟩
  · rw [hr 17 (by omega)]
    exact ⟨n1, x1, a.kp.own o1 (fun j e1 e2 => own_ne o1 hL (by decide) (by rw [e1, e2])), m1, t1⟩
  · rw [hr 18 (by omega)]
    exact ⟨n2, x2, a.kp.own o2 (fun j e1 e2 => own_ne o2 hL (by decide) (by rw [e1, e2])), m2, t2⟩
theorem LQ.step (h : LQ S B k w0 w g s r st l lt q) (a : LA w w1 g s r' st' l') (hr : ∀ j, j ≤ 21 → r' j = r j) {lt' : List Int} (ht : TR s r' lt') : LQ S B k w0 w1 g s r' st' l' lt' q :=
  h.step' a (fun j hj => hr j (by omega)) (by unfold SpC; rw [hr 19 (by omega), hr 20 (by omega), hr 21 (by omega)]; exact h.c0.2) ht
theorem LQ.stepS (h : LQ S B k w0 w g s r st l lt q) (a : LA w w1 g s r st' l') : LQ S B k w0 w1 g s r st' l' lt q := h.step a (fun _ _ => rfl) h.tr
theorem LQ.keepA (h : LQ S B k w0 w g s r st l lt q) (a : KeepA w w1) : LQ S B k w0 w1 g s r st l lt q := h.stepS (h.la.keepA a)
theorem LQ.more (h : LQ S B k w0 w g s r st l lt q) {q' : Nat} (hq : q ≤ q') : LQ S B k w0 w g s r st l lt q' := by
  obtain ⟨a, b, c, d, e, e', f, g0, g1, ⟨v, hl, s1, s2, s3, s4⟩, ⟨n1, x1, o1, m1, t1⟩, ⟨n2, x2, o2, m2, t2⟩⟩ := h
  obtain ⟨y1, y2, y3, y4, n, xs, y5, y6⟩ := hl
  exact ⟨a, b, c, d, e, e', f, g0, g1, ⟨v, ⟨y1, y2, y3, y4, n, xs, y5, by omega⟩, s1, s2, s3, s4⟩, ⟨n1, x1, o1, by omega, t1⟩, ⟨n2, x2, o2, by omega, t2⟩⟩
/-- Behind AddMsg. -/
theorem LQ.msg (h : LQ S B k w0 w g s r st l lt q) {e : Ending} {v : Value} (hv : LogB B k.kd k.mu k.he k.ms q v w) (hs : ∀ j, v.ownBlock = some j → S j) (a : AP B k.kd k.mu k.he k.ms q v w e w1) : LQ S B k w0 w1 g s r st l lt (q + 1) := by
  obtain ⟨_, v', hl', hb, hk⟩ := a
  obtain ⟨v0, hl, s1, s2, s3, s4⟩ := h.log
  obtain ⟨n1, x1, o1, m1, t1⟩ := h.all
  obtain ⟨n2, x2, o2, m2, t2⟩ := h.leg
  obtain ⟨b, hhe⟩ := hv.hhe
  obtain ⟨nm, xm, om, mm⟩ := hv.own
  obtain ⟨nl, _, _, hL⟩ := h.la.lx
  have hbig := h.la.big
  obtain ⟨q0, q1, q2, q3⟩ := h.lo
  have hno : ∀ j, j = k.mu ∨ j = k.he ∨ j = k.ms ∨ v.ownBlock = some j → 2 ≤ j ∧ j < w.heap.size ∧ S j ∧ j ≠ g ∧ (r 17).ownBlock ≠ some j ∧ (r 18).ownBlock ≠ some j := by
    rintro j (rfl | rfl | rfl | e)
    · exact ⟨q1, lt_of_blk hv.hmu, s1, blk_ne hv.hmu hL (by decide), own_ne o1 hv.hmu (by decide), own_ne o2 hv.hmu (by decide)⟩
    · exact ⟨q2, lt_of_blk hhe, s2, blk_ne hhe hL (by decide), own_ne o1 hhe (by decide), own_ne o2 hhe (by decide)⟩
    · exact ⟨q3, lt_of_blk hv.hms, s3, blk_ne hv.hms hL (by decide), own_ne o1 hv.hms (by decide), own_ne o2 hv.hms (by decide)⟩
    · have hlt := om.lt j e
      refine ⟨by omega, hlt.2, hs j e, fun e2 => own_ne om hL (by decide) (by rw [e, e2]), own_own_ne om o1 (by decide) e, own_own_ne om o2 (by decide) e⟩
  have h01 : ∀ j, j < 2 → ¬ (j = k.mu ∨ j = k.he ∨ j = k.ms ∨ v.ownBlock = some j) := fun j hj e => by have := (hno j e).1; omega
  have hg : ¬ (g = k.mu ∨ g = k.he ∨ g = k.ms ∨ v.ownBlock = some g) := fun e => (hno g e).2.2.2.1 rfl
  have hsz := hk.size
  obtain ⟨nl', z0, z1, hL'⟩ := h.la.lx
  refine ⟨⟨⟨nl', z0, z1, hk.blk hL' hg⟩, h.la.sfx, Keep.refl _ _, h.la.size, tabs_keep h.la.tabs hk (h01 0 (by decide)) (h01 1 (by decide)), h.la.big, h.la.from_⟩, h.kp.trans (hk.mono (fun j _ e => (hno j e).2.2.1)), h.new, h.sg, Nat.le_trans h.hB hsz, h.lo, h.tr, h.c0, h.c1, ?_, ?_, ?_⟩
  · refine ⟨v', hl', s1, s2, s3, fun j e => ?_⟩
    by_cases hj : j < w.heap.size
    · exact hs j (hb j e hj)
    · exact h.new j (by have := h.kp.size; omega)
  · exact ⟨n1, x1, hk.own o1 (fun j e1 e2 => (hno j e2).2.2.2.2.1 e1), by omega, t1⟩
  · exact ⟨n2, x2, hk.own o2 (fun j e1 e2 => (hno j e2).2.2.2.2.2 e1), by omega, t2⟩
theorem LQ.fresh (h : LQ S B k w0 w g s r st l lt q) {e : Ending} (a : ∀ v, LogB B k.kd k.mu k.he k.ms q v w → AP B k.kd k.mu k.he k.ms q v w e w1) : LQ S B k w0 w1 g s r st l lt (q + 1) := by
  obtain ⟨v, hl, s1, s2, s3, s4⟩ := h.log
  exact h.msg hl s4 (a v hl)
end
/-- Blocks of other kinds than the lexer's and the log's stay. -/
def TKeep (w w' : World) : Prop := ∀ (j : Nat) (cs : Array Value) (t : TypeId) (fr : Nat × Nat), w.heap[j]? = some (.cells cs t fr) → t ≠ 120 → t ≠ 106 → t ≠ 4 → t ≠ 100 → t ≠ 113 → w'.heap[j]? = some (.cells cs t fr)
theorem TKeep.trans {a b c : World} (h : TKeep a b) (k : TKeep b c) : TKeep a c := fun j cs t fr e a1 a2 a3 a4 a5 => k j cs t fr (h j cs t fr e a1 a2 a3 a4 a5) a1 a2 a3 a4 a5
theorem TKeep.ofA {a b : World} (h : KeepA a b) : TKeep a b := fun _ _ _ _ e _ _ _ _ _ => h.blk e (fun x => x)
theorem TKeep.ofB {w w0 w1 : World} {g : Nat} {s : ByteArray} {r : Nat → Value} {st : Nat} {l : List Int} (h : LA w0 w g s r st l) (k : KeepB g w w1) : TKeep w w1 := fun _ _ _ _ e a1 _ _ _ _ => by
  obtain ⟨nl, _, _, hL⟩ := h.lx
  exact k.blk e (blk_ne e hL a1)
theorem TKeep.ofM {B kd mu he ms q : Nat} {v : Value} {w w' : World} {e : Ending} (h : LogB B kd mu he ms q v w) (a : AP B kd mu he ms q v w e w') : TKeep w w' := fun _ _ _ _ b _ a2 a3 a4 a5 => by
  obtain ⟨_, _, _, _, hk⟩ := a
  obtain ⟨bb, hhe⟩ := h.hhe
  obtain ⟨nm, xm, om, mm⟩ := h.own
  refine hk.blk b ?_
  rintro (x | x | x | x)
  · exact blk_ne b h.hmu a2 x
  · exact blk_ne b hhe a3 x
  · exact blk_ne b h.hms a4 x
  · exact own_ne om b (fun q => a5 q.symm) x
/-- What a logging leaves. -/
def GP (S : Nat → Prop) (B : Nat) (k : LK) (w0 w : World) (g : Nat) (s : ByteArray) (r : Nat → Value) (st : Nat) (l lo : List Int) (q : Nat) (e : Ending) (w' : World) : Prop :=
  e = .returned (.tuple #[]) ∧ ∃ r', LQ S B k w0 w' g s r' st l lo (q + 1) ∧ Out 25 30 r r' ∧ TKeep w w'
set_option maxRecDepth 100000 in
set_option maxHeartbeats 4000000 in
theorem AddID_lq {S : Nat → Prop} {B : Nat} {k : LK} {w0 w : World} {g : Nat} {s : ByteArray} {r : Nat → Value} {st : Nat} {l lt lo : List Int} {q : Nat} (h : LQ S B k w0 w g s r st l lt q) (hs : lo <:+ lt) (hq : q ≤ 1073741825) (id : Int) (hid : id = 34 ∨ id = 39) {a b : Int} (ha : a = ps s lo) (hb : -2147483648 ≤ b ∧ b ≤ 2147483647) (t : ByteArray) :
    Calls Tryz.prog 77 #[.agg k.val.toArray, .int .u8 id, .int .u8 1, .pointer (some ⟨g, 22, none⟩), .agg #[.int .i32 a, .int .i32 b], .string t] w (GP S B k w0 w g s r st l lo q) := by
  obtain ⟨kd, mu, he, ms⟩ := k
  unfold LK.val logA
  go_enter Tryz.func77, Tryz.ntmps77
  go_wp2_with (go_at_call 108; refine (allowOverride_calls id 1 hid _).mono ?_; rintro e w' ⟨rfl, rfl⟩)
  obtain ⟨w2, hw2⟩ : ∃ x, ((w.alloc (.cells #[.func (.func 48) #[] #[.pointer (some ⟨kd, 0, none⟩), .pointer (some ⟨mu, 0, none⟩), .pointer (some ⟨he, 0, none⟩), .pointer (some ⟨ms, 0, none⟩)],
   .func (.func 51) #[] #[.pointer (some ⟨mu, 0, none⟩), .pointer (some ⟨he, 0, none⟩)],
   .func (.func 52) #[] #[.pointer (some ⟨mu, 0, none⟩), .pointer (some ⟨ms, 0, none⟩)],
   .func (.func 53) #[] #[.pointer (some ⟨mu, 0, none⟩), .pointer (some ⟨ms, 0, none⟩)], .int .i8 3, .map none] 75)).alloc (.cells #[.int .i32 a, .int .i32 b] 50)) = x := ⟨_, rfl⟩
  subst ha
  rw [hw2]
  have hQ2 : LQ S B ⟨kd, mu, he, ms⟩ w0 w2 g s r st l lt q := by rw [← hw2]; exact h.keepA (((Keep.refl _ _).alloc _).alloc _)
  have hQ3 := hQ2.keepA ((Keep.refl (fun _ => False) w2).drew)
  have TK2 : TKeep w w2.drew := by rw [← hw2]; exact TKeep.ofA ((((Keep.refl _ _).alloc _).alloc _).drew)
  have bF : w2.heap[w.heap.size]? = some (.cells #[.func (.func 48) #[] #[.pointer (some ⟨kd, 0, none⟩), .pointer (some ⟨mu, 0, none⟩), .pointer (some ⟨he, 0, none⟩), .pointer (some ⟨ms, 0, none⟩)],
   .func (.func 51) #[] #[.pointer (some ⟨mu, 0, none⟩), .pointer (some ⟨he, 0, none⟩)],
   .func (.func 52) #[] #[.pointer (some ⟨mu, 0, none⟩), .pointer (some ⟨ms, 0, none⟩)],
   .func (.func 53) #[] #[.pointer (some ⟨mu, 0, none⟩), .pointer (some ⟨ms, 0, none⟩)], .int .i8 3, .map none] 75 (0, 0)) := by
    rw [← hw2]; exact alloc_old _ (alloc_at _ rfl)
  have bR : w2.heap[w.heap.size + 1]? = some (.cells #[.int .i32 (ps s lo), .int .i32 b] 50 (0, 0)) := by
    rw [← hw2]; exact alloc_at _ (by simp)
  have hgl := h.la.lt
  obtain ⟨H, hH⟩ : ∃ x, w.heap.size = x := ⟨_, rfl⟩
  have n1 : H ≠ g := by omega
  have n2 : H + 1 ≠ g := by omega
  rw [hH] at bF bR ⊢
  obtain ⟨fs, hfs⟩ : ∃ x, (#[.func (.func 48) #[] #[.pointer (some ⟨kd, 0, none⟩), .pointer (some ⟨mu, 0, none⟩), .pointer (some ⟨he, 0, none⟩), .pointer (some ⟨ms, 0, none⟩)],
   .func (.func 51) #[] #[.pointer (some ⟨mu, 0, none⟩), .pointer (some ⟨he, 0, none⟩)],
   .func (.func 52) #[] #[.pointer (some ⟨mu, 0, none⟩), .pointer (some ⟨ms, 0, none⟩)],
   .func (.func 53) #[] #[.pointer (some ⟨mu, 0, none⟩), .pointer (some ⟨ms, 0, none⟩)], .int .i8 3, .map none] : Array Value) = x := ⟨_, rfl⟩
  have hf0 : fs[0]? = some (.func (.func 48) #[] #[.pointer (some ⟨kd, 0, none⟩), .pointer (some ⟨mu, 0, none⟩), .pointer (some ⟨he, 0, none⟩), .pointer (some ⟨ms, 0, none⟩)]) := by rw [← hfs]; rfl
  rw [hfs] at bF
  have cF : w2.cell? ⟨H, 0, none⟩ = some (.func (.func 48) #[] #[.pointer (some ⟨kd, 0, none⟩), .pointer (some ⟨mu, 0, none⟩), .pointer (some ⟨he, 0, none⟩), .pointer (some ⟨ms, 0, none⟩)]) := (blk_cell bF 0).trans hf0
  have cR0 : w2.cell? ⟨H + 1, 0, none⟩ = some (.int .i32 (ps s lo)) := (blk_cell bR 0).trans rfl
  have cR1 : w2.cell? ⟨H + 1, 1, none⟩ = some (.int .i32 b) := (blk_cell bR 1).trans rfl
  clear hw2 hH h hQ2 hid
  have CELLS : ∀ w3 : World, w3.heap[H]? = some (.cells fs 75 (0, 0)) → w3.heap[H + 1]? = some (.cells #[.int .i32 (ps s lo), .int .i32 b] 50 (0, 0)) → w3.cell? ⟨H, 0, none⟩ = some (.func (.func 48) #[] #[.pointer (some ⟨kd, 0, none⟩), .pointer (some ⟨mu, 0, none⟩), .pointer (some ⟨he, 0, none⟩), .pointer (some ⟨ms, 0, none⟩)]) ∧ w3.cell? ⟨H + 1, 0, none⟩ = some (.int .i32 (ps s lo)) ∧ w3.cell? ⟨H + 1, 1, none⟩ = some (.int .i32 b) :=
    fun w3 b1 b2 => ⟨(blk_cell b1 0).trans hf0, (blk_cell b2 0).trans rfl, (blk_cell b2 1).trans rfl⟩
  have KEY : ∀ w3 e, DP w2.drew g s r st l lo t e w3 → ∃ a1 r1 v, e = .returned (.agg #[.nilIface, .pointer (some a1), .string t, .bool false]) ∧ LQ S B ⟨kd, mu, he, ms⟩ w0 w3 g s r1 st l lo q ∧ Out 25 30 r r1 ∧ TKeep w w3 ∧ LogB B kd mu he ms q v w3 ∧ (∀ j, v.ownBlock = some j → S j) ∧ w3.heap[H]? = some (.cells fs 75 (0, 0)) ∧ w3.heap[H + 1]? = some (.cells #[.int .i32 (ps s lo), .int .i32 b] 50 (0, 0)) := by
    rintro w3 e ⟨a1, r1, rfl, hA3, hO, hT⟩
    have hQ4 := hQ3.step hA3 (fun j hj => hO j (by omega)) hT
    obtain ⟨v, hl, _, _, _, s4⟩ := hQ4.log
    exact ⟨a1, r1, v, rfl, hQ4, hO, TK2.trans (TKeep.ofB hQ3.la hA3.kp), hl, s4, hA3.kp.blk bF n1, hA3.kp.blk bR n2⟩
  have KEY2 : ∀ w3 w4 v e, LogB B kd mu he ms q v w3 → AP B kd mu he ms q v w3 e w4 → w3.heap[H]? = some (.cells fs 75 (0, 0)) → w3.heap[H + 1]? = some (.cells #[.int .i32 (ps s lo), .int .i32 b] 50 (0, 0)) → w4.heap[H]? = some (.cells fs 75 (0, 0)) ∧ w4.heap[H + 1]? = some (.cells #[.int .i32 (ps s lo), .int .i32 b] 50 (0, 0)) := by
    rintro w3 w4 v e hl ⟨_, v', _, _, hk⟩ b1 b2
    obtain ⟨bb, hhe⟩ := hl.hhe
    obtain ⟨nm, xm, om, mm⟩ := hl.own
    refine ⟨hk.blk b1 ?_, hk.blk b2 ?_⟩
    · rintro (e | e | e | e)
      · exact blk_ne b1 hl.hmu (by decide) e
      · exact blk_ne b1 hhe (by decide) e
      · exact blk_ne b1 hl.hms (by decide) e
      · exact own_ne om b1 (by decide) e
    · rintro (e | e | e | e)
      · exact blk_ne b2 hl.hmu (by decide) e
      · exact blk_ne b2 hhe (by decide) e
      · exact blk_ne b2 hl.hms (by decide) e
      · exact own_ne om b2 (by decide) e
  go_region_held3 (fun w' => w'.cell? ⟨H, 0, none⟩ = some (.func (.func 48) #[] #[.pointer (some ⟨kd, 0, none⟩), .pointer (some ⟨mu, 0, none⟩), .pointer (some ⟨he, 0, none⟩), .pointer (some ⟨ms, 0, none⟩)]) ∧ w'.cell? ⟨H + 1, 0, none⟩ = some (.int .i32 (ps s lo)) ∧ w'.cell? ⟨H + 1, 1, none⟩ = some (.int .i32 b)) (go_keep)
    (first
      | (go_at_call 107; refine (MsgData_la hQ3.la hQ3.tr hs rfl hb t).mono ?_; intro e w3 hD; obtain ⟨a1, r1, v, rfl, hQ4, hO, hTK, hl, s4, b3, b3'⟩ := KEY w3 e hD; obtain ⟨cF3, cR03, cR13⟩ := CELLS w3 b3 b3')
      | (go_at_call 48; refine (AddMsg_calls hl hq hQ4.hB none 0 0 a1 t 1 id (.inr rfl)).mono ?_; intro e w4 hAP; obtain ⟨b4, b4'⟩ := KEY2 w3 w4 v e hl hAP b3 b3'; obtain ⟨cF4, cR04, cR14⟩ := CELLS w4 b4 b4'; obtain rfl := hAP.1))
  all_goals
    go_wp2_with fail
    go_end0
    exact ⟨rfl, r1, hQ4.msg hl s4 hAP, hO, hTK.trans (TKeep.ofM hl hAP)⟩
set_option maxRecDepth 100000 in
set_option maxHeartbeats 4000000 in
theorem AddError_lq {S : Nat → Prop} {B : Nat} {k : LK} {w0 w : World} {g : Nat} {s : ByteArray} {r : Nat → Value} {st : Nat} {l lt lo : List Int} {q : Nat} (h : LQ S B k w0 w g s r st l lt q) (hs : lo <:+ lt) (hq : q ≤ 1073741825) {a b : Int} (ha : a = ps s lo) (hb : -2147483648 ≤ b ∧ b ≤ 2147483647) (t : ByteArray) :
    Calls Tryz.prog 86 #[.agg k.val.toArray, .pointer (some ⟨g, 22, none⟩), .agg #[.int .i32 a, .int .i32 b], .string t] w (GP S B k w0 w g s r st l lo q) := by
  obtain ⟨kd, mu, he, ms⟩ := k
  unfold LK.val logA
  go_enter Tryz.func86, Tryz.ntmps86
  go_wp2_with fail
  obtain ⟨w2, hw2⟩ : ∃ x, ((w.alloc (.cells #[.func (.func 48) #[] #[.pointer (some ⟨kd, 0, none⟩), .pointer (some ⟨mu, 0, none⟩), .pointer (some ⟨he, 0, none⟩), .pointer (some ⟨ms, 0, none⟩)],
   .func (.func 51) #[] #[.pointer (some ⟨mu, 0, none⟩), .pointer (some ⟨he, 0, none⟩)],
   .func (.func 52) #[] #[.pointer (some ⟨mu, 0, none⟩), .pointer (some ⟨ms, 0, none⟩)],
   .func (.func 53) #[] #[.pointer (some ⟨mu, 0, none⟩), .pointer (some ⟨ms, 0, none⟩)], .int .i8 3, .map none] 75)).alloc (.cells #[.int .i32 a, .int .i32 b] 50)) = x := ⟨_, rfl⟩
  subst ha
  rw [hw2]
  have hQ2 : LQ S B ⟨kd, mu, he, ms⟩ w0 w2 g s r st l lt q := by rw [← hw2]; exact h.keepA (((Keep.refl _ _).alloc _).alloc _)
  have hQ3 := hQ2.keepA ((Keep.refl (fun _ => False) w2).drew)
  have TK2 : TKeep w w2.drew := by rw [← hw2]; exact TKeep.ofA ((((Keep.refl _ _).alloc _).alloc _).drew)
  have bF : w2.heap[w.heap.size]? = some (.cells #[.func (.func 48) #[] #[.pointer (some ⟨kd, 0, none⟩), .pointer (some ⟨mu, 0, none⟩), .pointer (some ⟨he, 0, none⟩), .pointer (some ⟨ms, 0, none⟩)],
   .func (.func 51) #[] #[.pointer (some ⟨mu, 0, none⟩), .pointer (some ⟨he, 0, none⟩)],
   .func (.func 52) #[] #[.pointer (some ⟨mu, 0, none⟩), .pointer (some ⟨ms, 0, none⟩)],
   .func (.func 53) #[] #[.pointer (some ⟨mu, 0, none⟩), .pointer (some ⟨ms, 0, none⟩)], .int .i8 3, .map none] 75 (0, 0)) := by
    rw [← hw2]; exact alloc_old _ (alloc_at _ rfl)
  have bR : w2.heap[w.heap.size + 1]? = some (.cells #[.int .i32 (ps s lo), .int .i32 b] 50 (0, 0)) := by
    rw [← hw2]; exact alloc_at _ (by simp)
  have hgl := h.la.lt
  obtain ⟨H, hH⟩ : ∃ x, w.heap.size = x := ⟨_, rfl⟩
  have n1 : H ≠ g := by omega
  have n2 : H + 1 ≠ g := by omega
  rw [hH] at bF bR ⊢
  obtain ⟨fs, hfs⟩ : ∃ x, (#[.func (.func 48) #[] #[.pointer (some ⟨kd, 0, none⟩), .pointer (some ⟨mu, 0, none⟩), .pointer (some ⟨he, 0, none⟩), .pointer (some ⟨ms, 0, none⟩)],
   .func (.func 51) #[] #[.pointer (some ⟨mu, 0, none⟩), .pointer (some ⟨he, 0, none⟩)],
   .func (.func 52) #[] #[.pointer (some ⟨mu, 0, none⟩), .pointer (some ⟨ms, 0, none⟩)],
   .func (.func 53) #[] #[.pointer (some ⟨mu, 0, none⟩), .pointer (some ⟨ms, 0, none⟩)], .int .i8 3, .map none] : Array Value) = x := ⟨_, rfl⟩
  have hf0 : fs[0]? = some (.func (.func 48) #[] #[.pointer (some ⟨kd, 0, none⟩), .pointer (some ⟨mu, 0, none⟩), .pointer (some ⟨he, 0, none⟩), .pointer (some ⟨ms, 0, none⟩)]) := by rw [← hfs]; rfl
  rw [hfs] at bF
  have cF : w2.cell? ⟨H, 0, none⟩ = some (.func (.func 48) #[] #[.pointer (some ⟨kd, 0, none⟩), .pointer (some ⟨mu, 0, none⟩), .pointer (some ⟨he, 0, none⟩), .pointer (some ⟨ms, 0, none⟩)]) := (blk_cell bF 0).trans hf0
  have cR0 : w2.cell? ⟨H + 1, 0, none⟩ = some (.int .i32 (ps s lo)) := (blk_cell bR 0).trans rfl
  have cR1 : w2.cell? ⟨H + 1, 1, none⟩ = some (.int .i32 b) := (blk_cell bR 1).trans rfl
  clear hw2 hH h hQ2
  have CELLS : ∀ w3 : World, w3.heap[H]? = some (.cells fs 75 (0, 0)) → w3.heap[H + 1]? = some (.cells #[.int .i32 (ps s lo), .int .i32 b] 50 (0, 0)) → w3.cell? ⟨H, 0, none⟩ = some (.func (.func 48) #[] #[.pointer (some ⟨kd, 0, none⟩), .pointer (some ⟨mu, 0, none⟩), .pointer (some ⟨he, 0, none⟩), .pointer (some ⟨ms, 0, none⟩)]) ∧ w3.cell? ⟨H + 1, 0, none⟩ = some (.int .i32 (ps s lo)) ∧ w3.cell? ⟨H + 1, 1, none⟩ = some (.int .i32 b) :=
    fun w3 b1 b2 => ⟨(blk_cell b1 0).trans hf0, (blk_cell b2 0).trans rfl, (blk_cell b2 1).trans rfl⟩
  have KEY : ∀ w3 e, DP w2.drew g s r st l lo t e w3 → ∃ a1 r1 v, e = .returned (.agg #[.nilIface, .pointer (some a1), .string t, .bool false]) ∧ LQ S B ⟨kd, mu, he, ms⟩ w0 w3 g s r1 st l lo q ∧ Out 25 30 r r1 ∧ TKeep w w3 ∧ LogB B kd mu he ms q v w3 ∧ (∀ j, v.ownBlock = some j → S j) ∧ w3.heap[H]? = some (.cells fs 75 (0, 0)) ∧ w3.heap[H + 1]? = some (.cells #[.int .i32 (ps s lo), .int .i32 b] 50 (0, 0)) := by
    rintro w3 e ⟨a1, r1, rfl, hA3, hO, hT⟩
    have hQ4 := hQ3.step hA3 (fun j hj => hO j (by omega)) hT
    obtain ⟨v, hl, _, _, _, s4⟩ := hQ4.log
    exact ⟨a1, r1, v, rfl, hQ4, hO, TK2.trans (TKeep.ofB hQ3.la hA3.kp), hl, s4, hA3.kp.blk bF n1, hA3.kp.blk bR n2⟩
  have KEY2 : ∀ w3 w4 v e, LogB B kd mu he ms q v w3 → AP B kd mu he ms q v w3 e w4 → w3.heap[H]? = some (.cells fs 75 (0, 0)) → w3.heap[H + 1]? = some (.cells #[.int .i32 (ps s lo), .int .i32 b] 50 (0, 0)) → w4.heap[H]? = some (.cells fs 75 (0, 0)) ∧ w4.heap[H + 1]? = some (.cells #[.int .i32 (ps s lo), .int .i32 b] 50 (0, 0)) := by
    rintro w3 w4 v e hl ⟨_, v', _, _, hk⟩ b1 b2
    obtain ⟨bb, hhe⟩ := hl.hhe
    obtain ⟨nm, xm, om, mm⟩ := hl.own
    refine ⟨hk.blk b1 ?_, hk.blk b2 ?_⟩
    · rintro (e | e | e | e)
      · exact blk_ne b1 hl.hmu (by decide) e
      · exact blk_ne b1 hhe (by decide) e
      · exact blk_ne b1 hl.hms (by decide) e
      · exact own_ne om b1 (by decide) e
    · rintro (e | e | e | e)
      · exact blk_ne b2 hl.hmu (by decide) e
      · exact blk_ne b2 hhe (by decide) e
      · exact blk_ne b2 hl.hms (by decide) e
      · exact own_ne om b2 (by decide) e
  go_region_held3 (fun w' => w'.cell? ⟨H, 0, none⟩ = some (.func (.func 48) #[] #[.pointer (some ⟨kd, 0, none⟩), .pointer (some ⟨mu, 0, none⟩), .pointer (some ⟨he, 0, none⟩), .pointer (some ⟨ms, 0, none⟩)]) ∧ w'.cell? ⟨H + 1, 0, none⟩ = some (.int .i32 (ps s lo)) ∧ w'.cell? ⟨H + 1, 1, none⟩ = some (.int .i32 b)) (go_keep)
    (first
      | (go_at_call 107; refine (MsgData_la hQ3.la hQ3.tr hs rfl hb t).mono ?_; intro e w3 hD; obtain ⟨a1, r1, v, rfl, hQ4, hO, hTK, hl, s4, b3, b3'⟩ := KEY w3 e hD; obtain ⟨cF3, cR03, cR13⟩ := CELLS w3 b3 b3')
      | (go_at_call 48; refine (AddMsg_calls hl hq hQ4.hB none 0 0 a1 t 0 0 (.inl rfl)).mono ?_; intro e w4 hAP; obtain ⟨b4, b4'⟩ := KEY2 w3 w4 v e hl hAP b3 b3'; obtain ⟨cF4, cR04, cR14⟩ := CELLS w4 b4 b4'; obtain rfl := hAP.1))
  all_goals
    go_wp2_with fail
    go_end0
    exact ⟨rfl, r1, hQ4.msg hl s4 hAP, hO, hTK.trans (TKeep.ofM hl hAP)⟩
set_option maxRecDepth 100000 in
set_option maxHeartbeats 4000000 in
theorem AddIDWithNotes_lq {S : Nat → Prop} {B : Nat} {k : LK} {w0 w : World} {g : Nat} {s : ByteArray} {r : Nat → Value} {st : Nat} {l lt lo : List Int} {q : Nat} (h : LQ S B k w0 w g s r st l lt q) (hs : lo <:+ lt) (hq : q ≤ 1073741825) (id : Int) (hid : id = 34 ∨ id = 39) {a b : Int} (ha : a = ps s lo) (hb : -2147483648 ≤ b ∧ b ≤ 2147483647) (t : ByteArray) (p : Option Addr) (n c : Nat) :
    Calls Tryz.prog 125 #[.agg k.val.toArray, .int .u8 id, .int .u8 1, .pointer (some ⟨g, 22, none⟩), .agg #[.int .i32 a, .int .i32 b], .string t, .slice p n c] w (GP S B k w0 w g s r st l lo q) := by
  obtain ⟨kd, mu, he, ms⟩ := k
  unfold LK.val logA
  go_enter Tryz.func125, Tryz.ntmps125
  go_wp2_with (go_at_call 108; refine (allowOverride_calls id 1 hid _).mono ?_; rintro e w' ⟨rfl, rfl⟩)
  obtain ⟨w2, hw2⟩ : ∃ x, ((w.alloc (.cells #[.func (.func 48) #[] #[.pointer (some ⟨kd, 0, none⟩), .pointer (some ⟨mu, 0, none⟩), .pointer (some ⟨he, 0, none⟩), .pointer (some ⟨ms, 0, none⟩)],
   .func (.func 51) #[] #[.pointer (some ⟨mu, 0, none⟩), .pointer (some ⟨he, 0, none⟩)],
   .func (.func 52) #[] #[.pointer (some ⟨mu, 0, none⟩), .pointer (some ⟨ms, 0, none⟩)],
   .func (.func 53) #[] #[.pointer (some ⟨mu, 0, none⟩), .pointer (some ⟨ms, 0, none⟩)], .int .i8 3, .map none] 75)).alloc (.cells #[.int .i32 a, .int .i32 b] 50)) = x := ⟨_, rfl⟩
  subst ha
  rw [hw2]
  have hQ2 : LQ S B ⟨kd, mu, he, ms⟩ w0 w2 g s r st l lt q := by rw [← hw2]; exact h.keepA (((Keep.refl _ _).alloc _).alloc _)
  have hQ3 := hQ2.keepA ((Keep.refl (fun _ => False) w2).drew)
  have TK2 : TKeep w w2.drew := by rw [← hw2]; exact TKeep.ofA ((((Keep.refl _ _).alloc _).alloc _).drew)
  have bF : w2.heap[w.heap.size]? = some (.cells #[.func (.func 48) #[] #[.pointer (some ⟨kd, 0, none⟩), .pointer (some ⟨mu, 0, none⟩), .pointer (some ⟨he, 0, none⟩), .pointer (some ⟨ms, 0, none⟩)],
   .func (.func 51) #[] #[.pointer (some ⟨mu, 0, none⟩), .pointer (some ⟨he, 0, none⟩)],
   .func (.func 52) #[] #[.pointer (some ⟨mu, 0, none⟩), .pointer (some ⟨ms, 0, none⟩)],
   .func (.func 53) #[] #[.pointer (some ⟨mu, 0, none⟩), .pointer (some ⟨ms, 0, none⟩)], .int .i8 3, .map none] 75 (0, 0)) := by
    rw [← hw2]; exact alloc_old _ (alloc_at _ rfl)
  have bR : w2.heap[w.heap.size + 1]? = some (.cells #[.int .i32 (ps s lo), .int .i32 b] 50 (0, 0)) := by
    rw [← hw2]; exact alloc_at _ (by simp)
  have hgl := h.la.lt
  obtain ⟨H, hH⟩ : ∃ x, w.heap.size = x := ⟨_, rfl⟩
  have n1 : H ≠ g := by omega
  have n2 : H + 1 ≠ g := by omega
  rw [hH] at bF bR ⊢
  obtain ⟨fs, hfs⟩ : ∃ x, (#[.func (.func 48) #[] #[.pointer (some ⟨kd, 0, none⟩), .pointer (some ⟨mu, 0, none⟩), .pointer (some ⟨he, 0, none⟩), .pointer (some ⟨ms, 0, none⟩)],
   .func (.func 51) #[] #[.pointer (some ⟨mu, 0, none⟩), .pointer (some ⟨he, 0, none⟩)],
   .func (.func 52) #[] #[.pointer (some ⟨mu, 0, none⟩), .pointer (some ⟨ms, 0, none⟩)],
   .func (.func 53) #[] #[.pointer (some ⟨mu, 0, none⟩), .pointer (some ⟨ms, 0, none⟩)], .int .i8 3, .map none] : Array Value) = x := ⟨_, rfl⟩
  have hf0 : fs[0]? = some (.func (.func 48) #[] #[.pointer (some ⟨kd, 0, none⟩), .pointer (some ⟨mu, 0, none⟩), .pointer (some ⟨he, 0, none⟩), .pointer (some ⟨ms, 0, none⟩)]) := by rw [← hfs]; rfl
  rw [hfs] at bF
  have cF : w2.cell? ⟨H, 0, none⟩ = some (.func (.func 48) #[] #[.pointer (some ⟨kd, 0, none⟩), .pointer (some ⟨mu, 0, none⟩), .pointer (some ⟨he, 0, none⟩), .pointer (some ⟨ms, 0, none⟩)]) := (blk_cell bF 0).trans hf0
  have cR0 : w2.cell? ⟨H + 1, 0, none⟩ = some (.int .i32 (ps s lo)) := (blk_cell bR 0).trans rfl
  have cR1 : w2.cell? ⟨H + 1, 1, none⟩ = some (.int .i32 b) := (blk_cell bR 1).trans rfl
  clear hw2 hH h hQ2 hid
  have CELLS : ∀ w3 : World, w3.heap[H]? = some (.cells fs 75 (0, 0)) → w3.heap[H + 1]? = some (.cells #[.int .i32 (ps s lo), .int .i32 b] 50 (0, 0)) → w3.cell? ⟨H, 0, none⟩ = some (.func (.func 48) #[] #[.pointer (some ⟨kd, 0, none⟩), .pointer (some ⟨mu, 0, none⟩), .pointer (some ⟨he, 0, none⟩), .pointer (some ⟨ms, 0, none⟩)]) ∧ w3.cell? ⟨H + 1, 0, none⟩ = some (.int .i32 (ps s lo)) ∧ w3.cell? ⟨H + 1, 1, none⟩ = some (.int .i32 b) :=
    fun w3 b1 b2 => ⟨(blk_cell b1 0).trans hf0, (blk_cell b2 0).trans rfl, (blk_cell b2 1).trans rfl⟩
  have KEY : ∀ w3 e, DP w2.drew g s r st l lo t e w3 → ∃ a1 r1 v, e = .returned (.agg #[.nilIface, .pointer (some a1), .string t, .bool false]) ∧ LQ S B ⟨kd, mu, he, ms⟩ w0 w3 g s r1 st l lo q ∧ Out 25 30 r r1 ∧ TKeep w w3 ∧ LogB B kd mu he ms q v w3 ∧ (∀ j, v.ownBlock = some j → S j) ∧ w3.heap[H]? = some (.cells fs 75 (0, 0)) ∧ w3.heap[H + 1]? = some (.cells #[.int .i32 (ps s lo), .int .i32 b] 50 (0, 0)) := by
    rintro w3 e ⟨a1, r1, rfl, hA3, hO, hT⟩
    have hQ4 := hQ3.step hA3 (fun j hj => hO j (by omega)) hT
    obtain ⟨v, hl, _, _, _, s4⟩ := hQ4.log
    exact ⟨a1, r1, v, rfl, hQ4, hO, TK2.trans (TKeep.ofB hQ3.la hA3.kp), hl, s4, hA3.kp.blk bF n1, hA3.kp.blk bR n2⟩
  have KEY2 : ∀ w3 w4 v e, LogB B kd mu he ms q v w3 → AP B kd mu he ms q v w3 e w4 → w3.heap[H]? = some (.cells fs 75 (0, 0)) → w3.heap[H + 1]? = some (.cells #[.int .i32 (ps s lo), .int .i32 b] 50 (0, 0)) → w4.heap[H]? = some (.cells fs 75 (0, 0)) ∧ w4.heap[H + 1]? = some (.cells #[.int .i32 (ps s lo), .int .i32 b] 50 (0, 0)) := by
    rintro w3 w4 v e hl ⟨_, v', _, _, hk⟩ b1 b2
    obtain ⟨bb, hhe⟩ := hl.hhe
    obtain ⟨nm, xm, om, mm⟩ := hl.own
    refine ⟨hk.blk b1 ?_, hk.blk b2 ?_⟩
    · rintro (e | e | e | e)
      · exact blk_ne b1 hl.hmu (by decide) e
      · exact blk_ne b1 hhe (by decide) e
      · exact blk_ne b1 hl.hms (by decide) e
      · exact own_ne om b1 (by decide) e
    · rintro (e | e | e | e)
      · exact blk_ne b2 hl.hmu (by decide) e
      · exact blk_ne b2 hhe (by decide) e
      · exact blk_ne b2 hl.hms (by decide) e
      · exact own_ne om b2 (by decide) e
  go_region_held3 (fun w' => w'.cell? ⟨H, 0, none⟩ = some (.func (.func 48) #[] #[.pointer (some ⟨kd, 0, none⟩), .pointer (some ⟨mu, 0, none⟩), .pointer (some ⟨he, 0, none⟩), .pointer (some ⟨ms, 0, none⟩)]) ∧ w'.cell? ⟨H + 1, 0, none⟩ = some (.int .i32 (ps s lo)) ∧ w'.cell? ⟨H + 1, 1, none⟩ = some (.int .i32 b)) (go_keep)
    (first
      | (go_at_call 107; refine (MsgData_la hQ3.la hQ3.tr hs rfl hb t).mono ?_; intro e w3 hD; obtain ⟨a1, r1, v, rfl, hQ4, hO, hTK, hl, s4, b3, b3'⟩ := KEY w3 e hD; obtain ⟨cF3, cR03, cR13⟩ := CELLS w3 b3 b3')
      | (go_at_call 48; refine (AddMsg_calls hl hq hQ4.hB p n c a1 t 1 id (.inr rfl)).mono ?_; intro e w4 hAP; obtain ⟨b4, b4'⟩ := KEY2 w3 w4 v e hl hAP b3 b3'; obtain ⟨cF4, cR04, cR14⟩ := CELLS w4 b4 b4'; obtain rfl := hAP.1))
  all_goals
    go_wp2_with fail
    go_end0
    exact ⟨rfl, r1, hQ4.msg hl s4 hAP, hO, hTK.trans (TKeep.ofM hl hAP)⟩
end Go.Proofs.YtedckphklebndaaGreatDoor
/- The package's scan of a text in quotes: it ends where the reference's does. No condition; no program in sight. -/
namespace Go.Proofs.YtedckphklebndaaGreatDoor
open Go
/-- The package's scan of a text in quotes: the kind, and what is left. -/
def scanQ (q : Int) : List Int → Int × List Int
  | [] => (2, [])
  | c :: t =>
    if c = q then (36, t)
    else if isNL c = true then (2, c :: t)
    else if c = 92 then
      if isNL (hd t) = true then scanQ q (nlTake t) else scanQ q t.tail
    else scanQ q t
  termination_by l => l.length
  decreasing_by
    · have := nlTake_le t; simp only [List.length_cons]; omega
    · simp only [List.length_cons, List.length_tail]; omega
    · simp
theorem scanQ_nil (q : Int) : scanQ q [] = (2, []) := by rw [scanQ]
theorem scanQ_end {q : Int} {l : List Int} (hl : l ≠ []) (h : hd l = q) : scanQ q l = (36, l.tail) := by
  cases l with
  | nil => exact absurd rfl hl
  | cons c t => rw [scanQ, if_pos (by simpa using h)]; rfl
theorem scanQ_line {q : Int} {l : List Int} (h : hd l ≠ q) (hn : isNL (hd l) = true) : scanQ q l = (2, l) := by
  cases l with
  | nil => simp [isNL] at hn
  | cons c t => rw [scanQ, if_neg (by simpa using h), if_pos (by simpa using hn)]
theorem scanQ_go {q : Int} {l : List Int} (hl : l ≠ []) (h : hd l ≠ q) (hn : isNL (hd l) = false) (h92 : hd l ≠ 92) : scanQ q l = scanQ q l.tail := by
  cases l with
  | nil => exact absurd rfl hl
  | cons c t => simp only [hd_cons] at h hn h92; rw [scanQ, if_neg h, if_neg (by rw [hn]; decide), if_neg h92]; rfl
theorem scanQ_bs {q : Int} {l : List Int} (h : q ≠ 92) (h92 : hd l = 92) : scanQ q l = if isNL (hd l.tail) = true then scanQ q (nlTake l.tail) else scanQ q l.tail.tail := by
  cases l with
  | nil => simp at h92
  | cons c t =>
    simp only [hd_cons] at h92
    subst h92
    rw [scanQ, if_neg (fun e => h e.symm), if_neg (by decide), if_pos rfl]; rfl
theorem hexv_plain {c : Int} (h : 0 ≤ hexv c) : isNL c = false ∧ c ≠ 92 ∧ c ≠ 34 ∧ c ≠ 39 := by
  unfold hexv at h
  unfold isNL
  split at h
  · refine ⟨?_, by omega, by omega, by omega⟩
    simp; omega
  · split at h
    · refine ⟨?_, by omega, by omega, by omega⟩
      simp; omega
    · split at h
      · refine ⟨?_, by omega, by omega, by omega⟩
        simp; omega
      · omega
theorem scanQ_hexs {q : Int} (hq : q = 34 ∨ q = 39) (n : Nat) : ∀ (v : Int) (l : List Int), scanQ q (hexs n v l).2 = scanQ q l := by
  induction n with
  | zero => intro v l; rfl
  | succ n ih =>
    intro v l
    cases l with
    | nil => rfl
    | cons c t =>
      simp only [hexs]
      split
      · rename_i e
        obtain ⟨p1, p2, p3, p4⟩ := hexv_plain e
        rw [ih]
        exact (scanQ_go (l := c :: t) (by simp) (by simp only [hd_cons]; rcases hq with rfl | rfl <;> assumption) p1 p2).symm
      · rfl
theorem scanQ_esc {q : Int} (hq : q = 34 ∨ q = 39) {t : List Int} (ht : t ≠ []) (hn : isNL (hd t) = false) (ho : (escF t).2.2 = false) : scanQ q t.tail = scanQ q (escF t).2.1 := by
  cases t with
  | nil => exact absurd rfl ht
  | cons c t =>
    simp only [escF] at ho ⊢
    by_cases hx : hexv c < 0
    · rw [if_pos hx]; rfl
    · rw [if_neg hx] at ho ⊢
      simp only at ho ⊢
      obtain ⟨p1, p2, p3, p4⟩ := hexv_plain (c := c) (by omega)
      have e1 : scanQ q (c :: t) = scanQ q t := scanQ_go (l := c :: t) (by simp) (by simp only [hd_cons]; rcases hq with rfl | rfl <;> assumption) p1 p2
      rw [List.tail_cons, ← e1, ← scanQ_hexs hq 6 0 (c :: t)]
      unfold escRest
      rw [if_neg (by rw [ho]; decide)]
      split
      · rename_i e
        generalize (hexs 6 0 (c :: t)).2 = m at ho e
        have hm : m ≠ [] := by rintro rfl; simp [isSp, isNL] at e
        have hs : hd m = 9 ∨ hd m = 32 := by
          unfold isSp at e
          rw [ho] at e
          simpa using e
        refine scanQ_go hm ?_ ho ?_
        · rcases hq with rfl | rfl <;> omega
        · omega
      · rfl
theorem scan_quot {q : Int} (hq : q = 34 ∨ q = 39) (l : List Int) : ∀ out, (quotF q out l).2.2 = false → scanQ q l = ((quotF q out l).1.kind, (quotF q out l).2.1) ∧ ((quotF q out l).1.kind = 2 → isNL (hd (quotF q out l).2.1) = true) := by
  induction hn : l.length using Nat.strongRecOn generalizing l with
  | _ n ih =>
    intro out ho
    cases l with
    | nil => rw [quotF] at ho; cases ho
    | cons c t =>
      have e3 := escF_le t
      have e4 := nlTake_le t
      simp only [List.length_cons] at hn
      rw [quotF] at ho ⊢
      by_cases h1 : c = q
      · rw [if_pos h1] at ho ⊢
        rw [scanQ_end (by simp) (by simpa using h1)]
        exact ⟨rfl, fun e => by simp at e⟩
      · rw [if_neg h1] at ho ⊢
        by_cases h2 : isNL c = true
        · rw [if_pos h2] at ho ⊢
          rw [scanQ_line (by simpa using h1) (by simpa using h2)]
          exact ⟨rfl, fun _ => h2⟩
        · rw [if_neg h2] at ho ⊢
          by_cases h3 : c = 92
          · rw [if_pos h3] at ho ⊢
            rw [scanQ_bs (by rcases hq with rfl | rfl <;> decide) (by simpa using h3), List.tail_cons]
            by_cases h4 : isNL (hd t) = true
            · rw [if_pos h4] at ho ⊢
              rw [if_pos h4]
              exact ih _ (by omega) (nlTake t) rfl out ho
            · rw [if_neg h4] at ho ⊢
              rw [if_neg h4]
              by_cases h5 : t = []
              · rw [if_pos h5] at ho; cases ho
              · rw [if_neg h5] at ho ⊢
                simp only [Bool.or_eq_false_iff] at ho ⊢
                rw [scanQ_esc hq h5 (by simpa using h4) ho.1]
                exact ih _ (by omega) (escF t).2.1 rfl _ ho.2
          · rw [if_neg h3] at ho ⊢
            rw [scanQ_go (l := c :: t) (by simp) (by simpa using h1) (by simpa using h2) (by simpa using h3), List.tail_cons]
            exact ih _ (by omega) t rfl _ ho
end Go.Proofs.YtedckphklebndaaGreatDoor
