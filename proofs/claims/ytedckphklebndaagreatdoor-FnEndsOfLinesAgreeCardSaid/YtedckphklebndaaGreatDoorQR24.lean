/- The package's next at a backslash that is no escape, at a hyphen, at a less-than sign, at two slashes. -/
import Derived.Test.YtedckphklebndaaGreatDoorQGR15
namespace Go.Proofs.YtedckphklebndaaGreatDoor
open Go Go.RowKit
/-- Signs ahead, by their bytes. -/
theorem pre_iff (p : List Int) : ∀ t : List Int, (∀ c ∈ p, 1 ≤ c ∧ c < 128) → RnAll t → ((encs t).take p.length = encs p ↔ p <+: t) := by
  induction p with
  | nil => intro t _ _; simp [encs]
  | cons c p ih =>
    intro t hp ht
    have h1 := hp c (List.mem_cons_self ..)
    have e1 := enc_one (c := c) (by omega) (by omega)
    cases t with
    | nil => simp [encs, e1]
    | cons d t =>
      have ih' := ih t (fun x hx => hp x (List.mem_cons_of_mem _ hx)) ht.tail
      by_cases hd : d < 128
      · have h2 := ht.head.1
        have e2 := enc_one (c := d) (by omega) hd
        simp only [encs, e1, e2, List.length_cons, List.cons_append, List.nil_append, List.take_succ_cons, List.cons.injEq, List.cons_prefix_cons]
        rw [ih']
        refine and_congr ⟨fun e => ?_, fun e => by rw [e]⟩ Iff.rfl
        have a1 := toNat_u8 c (by omega) (by omega)
        have a2 := toNat_u8 d (by omega) (by omega)
        rw [← e, a2] at a1
        exact a1.symm
      · obtain ⟨t', e2⟩ := enc_lead ht.head
        have h3 := lead_high ht.head (by omega)
        simp only [encs, e1, e2, List.length_cons, List.cons_append, List.nil_append, List.take_succ_cons, List.cons.injEq, List.cons_prefix_cons]
        refine ⟨fun e => ?_, fun e => by omega⟩
        have a1 := toNat_u8 c (by omega) (by omega)
        have a2 := toNat_u8 (lead d) (by omega) (by omega)
        rw [← e.1, a2] at a1
        omega
theorem pre_ext {s : ByteArray} {t : List Int} (h : Sfx s t) {p : List Int} (hp : ∀ c ∈ p, 1 ≤ c ∧ c < 128) (n : Nat) (hn : p.length = n) : (s.extract (ps s t) (ps s t + n)).data.toList = encs p ↔ p <+: t := by
  rw [Lib.extract_data, h.bytes, show ps s t + n - ps s t = n by omega, ← hn]
  exact pre_iff p t hp h.all
theorem bytes_of {a b : ByteArray} (h : a.data.toList = b.data.toList) : a = b := by
  obtain ⟨⟨a⟩⟩ := a
  obtain ⟨⟨b⟩⟩ := b
  simp only at h
  rw [h]
theorem pre_two {l : List Int} {a b : Int} (h1 : pk l 1 = a) (h2 : pk l 2 = b) (ha : a ≠ -1 := by decide) (hb : b ≠ -1 := by decide) : [a, b] <+: l.tail := by
  cases l with
  | nil => exact absurd h1.symm ha
  | cons c l => cases l with
    | nil => exact absurd h1.symm ha
    | cons d l => cases l with
      | nil => exact absurd h2.symm hb
      | cons e l =>
        simp only [pk_cons, pk_zero, hd_cons] at h1 h2
        subst h1 h2
        exact ⟨l, rfl⟩
theorem pre_three {l : List Int} {a b c : Int} (h1 : pk l 1 = a) (h2 : pk l 2 = b) (h3 : pk l 3 = c) (ha : a ≠ -1 := by decide) (hb : b ≠ -1 := by decide) (hc : c ≠ -1 := by decide) : [a, b, c] <+: l.tail := by
  cases l with
  | nil => exact absurd h1.symm ha
  | cons x l => cases l with
    | nil => exact absurd h1.symm ha
    | cons d l => cases l with
      | nil => exact absurd h2.symm hb
      | cons e l => cases l with
        | nil => exact absurd h3.symm hc
        | cons f l =>
          simp only [pk_cons, pk_zero, hd_cons] at h1 h2 h3
          subst h1 h2 h3
          exact ⟨l, rfl⟩
theorem two_pre {l : List Int} {a b : Int} (h : [a, b] <+: l.tail) : pk l 1 = a ∧ pk l 2 = b := by
  obtain ⟨u, hu⟩ := h
  cases l with
  | nil => cases hu
  | cons c l => simp only [List.tail_cons] at hu; rw [← hu]; exact ⟨rfl, rfl⟩
theorem three_pre {l : List Int} {a b c : Int} (h : [a, b, c] <+: l.tail) : pk l 1 = a ∧ pk l 2 = b ∧ pk l 3 = c := by
  obtain ⟨u, hu⟩ := h
  cases l with
  | nil => cases hu
  | cons x l => simp only [List.tail_cons] at hu; rw [← hu]; exact ⟨rfl, rfl, rfl⟩
theorem pre_size {s : ByteArray} {t p : List Int} (h : Sfx s t) (hp : p <+: t) (h2 : ∀ c ∈ p, 1 ≤ c ∧ c < 128) : ps s t + p.length ≤ s.size := by
  obtain ⟨u, rfl⟩ := hp
  have h3 := ps_append h
  have h4 := ps_le s u
  have h5 : (encs p).length = p.length := by
    clear h h3 h4
    induction p with
    | nil => rfl
    | cons c p ih =>
      have := h2 c (List.mem_cons_self ..)
      simp only [encs, List.length_append, List.length_cons, enc_one (c := c) (by omega) (by omega), ih (fun x hx => h2 x (List.mem_cons_of_mem _ hx)), List.length_nil]
      omega
  omega
set_option maxRecDepth 1000000 in
set_option maxHeartbeats 16000000 in
theorem nx_back {S : Nat → Prop} {B : Nat} {k : LK} {w0 w : World} {g : Nat} {s : ByteArray} {r : Nat → Value} {st : Nat} {l lt : List Int} {q : Nat} (h : NQ S B k w0 w g s r st l lt q) (hc : hd l = 92) (hes : escs (hd l) (pk l 1) = false) (f : Nat → Value) :
    Code.wp Tryz.prog nxBody (NxR S B k w0 g s l) ⟨fr592 (.pointer (some ⟨g, 0, none⟩)) f, []⟩ w := by
  unfold fr592
  conv => arg 2; whnf
  have c36 := h.lq.la.c36
  have c37 := h.lq.la.c37
  have hps := ps_le s l
  have hsz := h.lq.la.size
  have zz : (st : Int) + ((ps s l : Int) - st) = (ps s l : Nat) := by omega
  have b2 : ((ps s l : Nat) : Int) ≤ 2147483647 := by omega
  go_upto_region 1 with (first | (go_at_call 24; refine (End_at _ _ (by omega) _).mono ?_; rintro e w1 ⟨rfl, hk1⟩; have hL := (h.lq.keepA hk1).la; have f36 := hL.frozen 36; have f37 := hL.frozen 37; have f38 := hL.frozen 38; have f39 := hL.frozen 39; have f40 := hL.frozen 40; have d36 := hL.c36; have d37 := hL.c37; have d38 := hL.c38; have d39 := hL.c39; have d40 := hL.c40; clear hL))
  have hQ := (h.lq.keepA hk1).start
  unfold wTok at hQ
  clear f36 f37 f38 f39 f40 d36 d37 d38 d39 d40 c36 c37 hk1 zz b2
  generalize ((((w1.setCell ⟨g, 36, none⟩ (.int .i32 (ps s l : Nat))).setCell ⟨g, 37, none⟩ (.int .i32 0)).setCell ⟨g, 38, none⟩ (.int .u16 0)).setCell ⟨g, 39, none⟩ (.int .u8 0)).setCell ⟨g, 40, none⟩ (.int .u8 0) = wt at hQ ⊢
  have c35 := hQ.la.c35
  have hn : nextF l = ({ kind := 11 }, l.tail, false) := nextF_back hc hes
  have he : endF l = l.tail := by unfold endF; rw [if_neg (by rw [hc]; decide), hn]
  have hcm : ¬ (hd l = 47 ∧ pk l 1 = 42) := by rw [hc]; exact fun e => absurd e.1 (by decide)
  have hne : l ≠ [] := by rintro rfl; exact absurd hc (by decide)
  have hlt2 : l.tail.length < l.length := tail_lt' hne
  have hq2 := h.lts (n := 1) (tail_suf l) (by omega)
  have hps2 := ps_tail_le h.lq.la.sfx
  have hb2 := ps_le s l.tail
  have hqb := h.q
  have HN := Lib.hid hne
  have HC := Lib.hid hc
  rw [hc] at c35
  clear hc hne
  go_wp2_with (fail)
  refine (isValidEscape_la hQ.la).mono ?_
  rintro e w1 ⟨rfl, hK1⟩
  rw [hes]
  replace hQ := hQ.keepA hK1
  clear hK1 c35 hes
  go_wp2_with (fail)
  refine (step_la hQ.la).mono ?_
  rintro e w2 ⟨rfl, hA⟩
  have hQ2 := hQ.stepS hA
  clear hA
  clear hQ
  obtain ⟨l1, l2, l3, l4, l5, l6⟩ := hQ2.lc
  have d36 := hQ2.la.c36
  have d37 := hQ2.la.c37
  have hQe := hQ2.keepA ((Keep.refl (fun _ => False) w2).drew)
  have hbb : -2147483648 ≤ ((ps s l.tail : Nat) : Int) - (ps s l : Nat) ∧ ((ps s l.tail : Nat) : Int) - (ps s l : Nat) ≤ 2147483647 := by omega
  go_wp2_with (fail)
  go_region_held3 (fun w' => w'.cell? ⟨g, 1, none⟩ = some (.func (.func 48) #[] #[.pointer (some ⟨k.kd, 0, none⟩), .pointer (some ⟨k.mu, 0, none⟩), .pointer (some ⟨k.he, 0, none⟩), .pointer (some ⟨k.ms, 0, none⟩)]) ∧ w'.cell? ⟨g, 2, none⟩ = some (.func (.func 51) #[] #[.pointer (some ⟨k.mu, 0, none⟩), .pointer (some ⟨k.he, 0, none⟩)]) ∧ w'.cell? ⟨g, 3, none⟩ = some (.func (.func 52) #[] #[.pointer (some ⟨k.mu, 0, none⟩), .pointer (some ⟨k.ms, 0, none⟩)]) ∧ w'.cell? ⟨g, 4, none⟩ = some (.func (.func 53) #[] #[.pointer (some ⟨k.mu, 0, none⟩), .pointer (some ⟨k.ms, 0, none⟩)]) ∧ w'.cell? ⟨g, 5, none⟩ = some (.int .i8 3) ∧ w'.cell? ⟨g, 6, none⟩ = some (.map none) ∧ w'.cell? ⟨g, 36, none⟩ = some (.int .i32 (ps s l : Nat)) ∧ w'.cell? ⟨g, 37, none⟩ = some (.int .i32 (((ps s l.tail : Nat) : Int) - (ps s l : Nat)))) (go_keep)
    (first
      | (go_at_call 86; refine (AddError_lq hQe h.hs (by omega) rfl hbb _).mono ?_; intro e wn hG; obtain ⟨rfl, r2, hQn, hO2, hTK⟩ := hG; obtain ⟨n1, n2, n3, n4, n5, n6⟩ := hQn.lc; have e36 := hQn.la.c36; have e37 := hQn.la.c37; skip))
  all_goals
    have d39 := hQn.la.c39
    have f39 := hQn.la.frozen 39
    go_wp2_with (fail)
    exact NxR.one hQn (by rw [hO2 38 (by omega)]; exact tok0_38 r) (by rw [hO2 40 (by omega)]; exact tok0_40 r) (by rw [hO2 34 (by omega)]; exact h.tok34) hcm he (by rw [hn]) (by rw [hn]) (by rw [hn]) hq2 (tail_suf l) ⟨rfl, rfl, rfl⟩
set_option maxRecDepth 1000000 in
set_option maxHeartbeats 16000000 in
theorem nx_cdc {S : Nat → Prop} {B : Nat} {k : LK} {w0 w : World} {g : Nat} {s : ByteArray} {r : Nat → Value} {st : Nat} {l lt : List Int} {q : Nat} (h : NQ S B k w0 w g s r st l lt q) (hc : hd l = 45) (hnum : cnts (hd l) (pk l 1) (pk l 2) = false) (hcd : pk l 1 = 45 ∧ pk l 2 = 62) (f : Nat → Value) :
    Code.wp Tryz.prog nxBody (NxR S B k w0 g s l) ⟨fr592 (.pointer (some ⟨g, 0, none⟩)) f, []⟩ w := by
  unfold fr592
  conv => arg 2; whnf
  have c36 := h.lq.la.c36
  have c37 := h.lq.la.c37
  have hps := ps_le s l
  have hsz := h.lq.la.size
  have zz : (st : Int) + ((ps s l : Int) - st) = (ps s l : Nat) := by omega
  have b2 : ((ps s l : Nat) : Int) ≤ 2147483647 := by omega
  go_upto_region 1 with (first | (go_at_call 24; refine (End_at _ _ (by omega) _).mono ?_; rintro e w1 ⟨rfl, hk1⟩; have hL := (h.lq.keepA hk1).la; have f36 := hL.frozen 36; have f37 := hL.frozen 37; have f38 := hL.frozen 38; have f39 := hL.frozen 39; have f40 := hL.frozen 40; have d36 := hL.c36; have d37 := hL.c37; have d38 := hL.c38; have d39 := hL.c39; have d40 := hL.c40; clear hL))
  have hQ := (h.lq.keepA hk1).start
  unfold wTok at hQ
  clear f36 f37 f38 f39 f40 d36 d37 d38 d39 d40 c36 c37 hk1 zz b2
  generalize ((((w1.setCell ⟨g, 36, none⟩ (.int .i32 (ps s l : Nat))).setCell ⟨g, 37, none⟩ (.int .i32 0)).setCell ⟨g, 38, none⟩ (.int .u16 0)).setCell ⟨g, 39, none⟩ (.int .u8 0)).setCell ⟨g, 40, none⟩ (.int .u8 0) = wt at hQ ⊢
  have c35 := hQ.la.c35
  have hcm : ¬ (hd l = 47 ∧ pk l 1 = 42) := by rw [hc]; exact fun e => absurd e.1 (by decide)
  have hne : l ≠ [] := by rintro rfl; exact absurd hc (by decide)
  have hST := h.lq.la.sfx.tl
  have hb2 := ps_le s l.tail
  have hi0 : (0 : Int) ≤ (ps s l.tail : Nat) := by omega
  have hw : IntKind.i64.wrap (((ps s l.tail : Nat) : Int) + 2) = ((ps s l.tail : Nat) : Int) + 2 := by rw [IntKind.wrap_i64]; omega
  have hi2 : ((ps s l.tail : Nat) : Int) ≤ ((ps s l.tail : Nat) : Int) + 2 := by omega
  have htn : (((ps s l.tail : Nat) : Int) + 2).toNat = ps s l.tail + 2 := by omega
  have hn : nextF l = ({ kind := 4 }, l.drop 3, false) := nextF_cdc ⟨hc, hcd⟩
  have he : endF l = l.tail.tail.tail := by unfold endF; rw [if_neg (by rw [hc]; decide), hn, drop3]
  have hp : [45, 62] <+: l.tail := pre_two hcd.1 hcd.2
  have hx1 := (pre_ext hST (p := [45, 62]) (by decide) 2 rfl).2 hp
  have hx2 := pre_size hST hp (by decide)
  simp only [List.length_cons, List.length_nil] at hx2
  have hgd : decide (((ps s l.tail : Nat) : Int) + 2 ≤ s.size) = true := decide_eq_true (by omega)
  have hi3 : ((ps s l.tail : Nat) : Int) + 2 ≤ s.size := by omega
  have kx : ((s.extract (ps s l.tail) (ps s l.tail + 2)).toList == [45, 62]) = true := by rw [ByteArray.toList_eq, hx1]; rfl
  have HC := Lib.hid hc
  rw [hc] at c35
  clear hc hne hcd hST hp hx1
  go_wp2_with (fail)
  refine (wouldStartNumber_la hQ.la).mono ?_
  rintro e w1 ⟨rfl, rfl⟩
  rw [hnum]
  have c10 := hQ.la.c10
  have c33 := hQ.la.c33
  go_wp2_with (fail)
  go_quiet (fail)
  have hKn : KeepA wt (wt.drewN nq) := (Keep.refl _ _).drewN nq
  have hQn := hQ.keepA hKn
  clear hQ hKn c10 c33 c35
  go_wp2_with (fail)
  refine (step_la hQn.la).mono ?_
  rintro e w2 ⟨rfl, hA⟩
  have hQ2 := hQn.stepS hA
  clear hA
  clear hQn
  go_wp2_with (fail)
  refine (step_la hQ2.la).mono ?_
  rintro e w3 ⟨rfl, hA⟩
  have hQ3 := hQ2.stepS hA
  clear hA
  clear hQ2
  go_wp2_with (fail)
  refine (step_la hQ3.la).mono ?_
  rintro e w4 ⟨rfl, hA⟩
  have hQ4 := hQ3.stepS hA
  clear hA
  clear hQ3
  have d39 := hQ4.la.c39
  have f39 := hQ4.la.frozen 39
  go_wp2_with (fail)
  have hsu := h.suf ((tail_suf _).trans ((tail_suf _).trans (tail_suf l)))
  exact NxR.one hQ4 (tok0_38 r) (tok0_40 r) h.tok34 hcm he (by rw [hn]) (by rw [hn]) (by rw [hn]) hsu.1 hsu.2 ⟨rfl, rfl, rfl⟩
set_option maxRecDepth 1000000 in
set_option maxHeartbeats 16000000 in
theorem nx_cdo {S : Nat → Prop} {B : Nat} {k : LK} {w0 w : World} {g : Nat} {s : ByteArray} {r : Nat → Value} {st : Nat} {l lt : List Int} {q : Nat} (h : NQ S B k w0 w g s r st l lt q) (hc : hd l = 60) (hcd : pk l 1 = 33 ∧ pk l 2 = 45 ∧ pk l 3 = 45) (f : Nat → Value) :
    Code.wp Tryz.prog nxBody (NxR S B k w0 g s l) ⟨fr592 (.pointer (some ⟨g, 0, none⟩)) f, []⟩ w := by
  unfold fr592
  conv => arg 2; whnf
  have c36 := h.lq.la.c36
  have c37 := h.lq.la.c37
  have hps := ps_le s l
  have hsz := h.lq.la.size
  have zz : (st : Int) + ((ps s l : Int) - st) = (ps s l : Nat) := by omega
  have b2 : ((ps s l : Nat) : Int) ≤ 2147483647 := by omega
  go_upto_region 1 with (first | (go_at_call 24; refine (End_at _ _ (by omega) _).mono ?_; rintro e w1 ⟨rfl, hk1⟩; have hL := (h.lq.keepA hk1).la; have f36 := hL.frozen 36; have f37 := hL.frozen 37; have f38 := hL.frozen 38; have f39 := hL.frozen 39; have f40 := hL.frozen 40; have d36 := hL.c36; have d37 := hL.c37; have d38 := hL.c38; have d39 := hL.c39; have d40 := hL.c40; clear hL))
  have hQ := (h.lq.keepA hk1).start
  unfold wTok at hQ
  clear f36 f37 f38 f39 f40 d36 d37 d38 d39 d40 c36 c37 hk1 zz b2
  generalize ((((w1.setCell ⟨g, 36, none⟩ (.int .i32 (ps s l : Nat))).setCell ⟨g, 37, none⟩ (.int .i32 0)).setCell ⟨g, 38, none⟩ (.int .u16 0)).setCell ⟨g, 39, none⟩ (.int .u8 0)).setCell ⟨g, 40, none⟩ (.int .u8 0) = wt at hQ ⊢
  have c35 := hQ.la.c35
  have hcm : ¬ (hd l = 47 ∧ pk l 1 = 42) := by rw [hc]; exact fun e => absurd e.1 (by decide)
  have hne : l ≠ [] := by rintro rfl; exact absurd hc (by decide)
  have hST := h.lq.la.sfx.tl
  have hb2 := ps_le s l.tail
  have hi0 : (0 : Int) ≤ (ps s l.tail : Nat) := by omega
  have hw : IntKind.i64.wrap (((ps s l.tail : Nat) : Int) + 3) = ((ps s l.tail : Nat) : Int) + 3 := by rw [IntKind.wrap_i64]; omega
  have hi2 : ((ps s l.tail : Nat) : Int) ≤ ((ps s l.tail : Nat) : Int) + 3 := by omega
  have htn : (((ps s l.tail : Nat) : Int) + 3).toNat = ps s l.tail + 3 := by omega
  have hn : nextF l = ({ kind := 5 }, l.drop 4, false) := by rw [nextF_lt1 hc, if_pos hcd]
  have he : endF l = l.tail.tail.tail.tail := by unfold endF; rw [if_neg (by rw [hc]; decide), hn, drop4]
  have hp : [33, 45, 45] <+: l.tail := pre_three hcd.1 hcd.2.1 hcd.2.2
  have hx1 := (pre_ext hST (p := [33, 45, 45]) (by decide) 3 rfl).2 hp
  have hx2 := pre_size hST hp (by decide)
  simp only [List.length_cons, List.length_nil] at hx2
  have hgd : decide (((ps s l.tail : Nat) : Int) + 3 ≤ s.size) = true := decide_eq_true (by omega)
  have hi3 : ((ps s l.tail : Nat) : Int) + 3 ≤ s.size := by omega
  have kx : ((s.extract (ps s l.tail) (ps s l.tail + 3)).toList == [33, 45, 45]) = true := by rw [ByteArray.toList_eq, hx1]; rfl
  have HC := Lib.hid hc
  rw [hc] at c35
  clear hc hne hcd hST hp hx1
  have c10 := hQ.la.c10
  have c33 := hQ.la.c33
  go_wp2_with (fail)
  go_quiet (fail)
  have hKn : KeepA wt (wt.drewN nq) := (Keep.refl _ _).drewN nq
  have hQn := hQ.keepA hKn
  clear hQ hKn c10 c33 c35
  go_wp2_with (fail)
  refine (step_la hQn.la).mono ?_
  rintro e w2 ⟨rfl, hA⟩
  have hQ2 := hQn.stepS hA
  clear hA
  clear hQn
  go_wp2_with (fail)
  refine (step_la hQ2.la).mono ?_
  rintro e w3 ⟨rfl, hA⟩
  have hQ3 := hQ2.stepS hA
  clear hA
  clear hQ2
  go_wp2_with (fail)
  refine (step_la hQ3.la).mono ?_
  rintro e w4 ⟨rfl, hA⟩
  have hQ4 := hQ3.stepS hA
  clear hA
  clear hQ3
  go_wp2_with (fail)
  refine (step_la hQ4.la).mono ?_
  rintro e w5 ⟨rfl, hA⟩
  have hQ5 := hQ4.stepS hA
  clear hA
  clear hQ4
  have d39 := hQ5.la.c39
  have f39 := hQ5.la.frozen 39
  go_wp2_with (fail)
  have hsu := h.suf ((tail_suf _).trans ((tail_suf _).trans ((tail_suf _).trans (tail_suf l))))
  exact NxR.one hQ5 (tok0_38 r) (tok0_40 r) h.tok34 hcm he (by rw [hn]) (by rw [hn]) (by rw [hn]) hsu.1 hsu.2 ⟨rfl, rfl, rfl⟩
set_option maxRecDepth 1000000 in
set_option maxHeartbeats 16000000 in
theorem nx_less {S : Nat → Prop} {B : Nat} {k : LK} {w0 w : World} {g : Nat} {s : ByteArray} {r : Nat → Value} {st : Nat} {l lt : List Int} {q : Nat} (h : NQ S B k w0 w g s r st l lt q) (hc : hd l = 60) (hcd : ¬ (pk l 1 = 33 ∧ pk l 2 = 45 ∧ pk l 3 = 45)) (f : Nat → Value) :
    Code.wp Tryz.prog nxBody (NxR S B k w0 g s l) ⟨fr592 (.pointer (some ⟨g, 0, none⟩)) f, []⟩ w := by
  unfold fr592
  conv => arg 2; whnf
  have c36 := h.lq.la.c36
  have c37 := h.lq.la.c37
  have hps := ps_le s l
  have hsz := h.lq.la.size
  have zz : (st : Int) + ((ps s l : Int) - st) = (ps s l : Nat) := by omega
  have b2 : ((ps s l : Nat) : Int) ≤ 2147483647 := by omega
  go_upto_region 1 with (first | (go_at_call 24; refine (End_at _ _ (by omega) _).mono ?_; rintro e w1 ⟨rfl, hk1⟩; have hL := (h.lq.keepA hk1).la; have f36 := hL.frozen 36; have f37 := hL.frozen 37; have f38 := hL.frozen 38; have f39 := hL.frozen 39; have f40 := hL.frozen 40; have d36 := hL.c36; have d37 := hL.c37; have d38 := hL.c38; have d39 := hL.c39; have d40 := hL.c40; clear hL))
  have hQ := (h.lq.keepA hk1).start
  unfold wTok at hQ
  clear f36 f37 f38 f39 f40 d36 d37 d38 d39 d40 c36 c37 hk1 zz b2
  generalize ((((w1.setCell ⟨g, 36, none⟩ (.int .i32 (ps s l : Nat))).setCell ⟨g, 37, none⟩ (.int .i32 0)).setCell ⟨g, 38, none⟩ (.int .u16 0)).setCell ⟨g, 39, none⟩ (.int .u8 0)).setCell ⟨g, 40, none⟩ (.int .u8 0) = wt at hQ ⊢
  have c35 := hQ.la.c35
  have hcm : ¬ (hd l = 47 ∧ pk l 1 = 42) := by rw [hc]; exact fun e => absurd e.1 (by decide)
  have hne : l ≠ [] := by rintro rfl; exact absurd hc (by decide)
  have hST := h.lq.la.sfx.tl
  have hb2 := ps_le s l.tail
  have hi0 : (0 : Int) ≤ (ps s l.tail : Nat) := by omega
  have hw : IntKind.i64.wrap (((ps s l.tail : Nat) : Int) + 3) = ((ps s l.tail : Nat) : Int) + 3 := by rw [IntKind.wrap_i64]; omega
  have hi2 : ((ps s l.tail : Nat) : Int) ≤ ((ps s l.tail : Nat) : Int) + 3 := by omega
  have htn : (((ps s l.tail : Nat) : Int) + 3).toNat = ps s l.tail + 3 := by omega
  have hn : nextF l = ({ kind := 21 }, l.tail, false) := by rw [nextF_lt1 hc, if_neg hcd]
  have he : endF l = l.tail := by unfold endF; rw [if_neg (by rw [hc]; decide), hn]
  have HNP : Hid (¬ [33, 45, 45] <+: l.tail) := Lib.hid (fun e => hcd (three_pre e))
  have HC := Lib.hid hc
  rw [hc] at c35
  clear hc hne hcd
  by_cases hsz3 : ps s l.tail + 3 ≤ s.size
  · have hgd : decide (((ps s l.tail : Nat) : Int) + 3 ≤ s.size) = true := decide_eq_true (by omega)
    have hi3 : ((ps s l.tail : Nat) : Int) + 3 ≤ s.size := by omega
    have kx : ((s.extract (ps s l.tail) (ps s l.tail + 3)).toList == [33, 45, 45]) = false := by
      rw [ByteArray.toList_eq, beq_eq_false_iff_ne]
      exact fun e => HNP.out ((pre_ext hST (p := [33, 45, 45]) (by decide) 3 rfl).1 e)
    clear hST hsz3
    have c10 := hQ.la.c10
    have c33 := hQ.la.c33
    go_wp2_with (fail)
    go_quiet (fail)
    have hKn : KeepA wt (wt.drewN nq) := (Keep.refl _ _).drewN nq
    have hQn := hQ.keepA hKn
    clear hQ hKn c10 c33 c35
    go_wp2_with (fail)
    refine (step_la hQn.la).mono ?_
    rintro e w2 ⟨rfl, hA⟩
    have hQ2 := hQn.stepS hA
    clear hA
    have d39 := hQ2.la.c39
    have f39 := hQ2.la.frozen 39
    go_wp2_with (fail)
    have hsu := h.suf (tail_suf l)
    exact NxR.one hQ2 (tok0_38 r) (tok0_40 r) h.tok34 hcm he (by rw [hn]) (by rw [hn]) (by rw [hn]) hsu.1 hsu.2 ⟨rfl, rfl, rfl⟩
  · have hgd : decide (((ps s l.tail : Nat) : Int) + 3 ≤ s.size) = false := decide_eq_false (by omega)
    have hi3 : ¬ ((ps s l.tail : Nat) : Int) + 3 ≤ s.size := by omega
    clear hST hsz3
    have c10 := hQ.la.c10
    have c33 := hQ.la.c33
    go_wp2_with (fail)
    go_quiet (fail)
    have hKn : KeepA wt (wt.drewN nq) := (Keep.refl _ _).drewN nq
    have hQn := hQ.keepA hKn
    clear hQ hKn c10 c33 c35
    go_wp2_with (fail)
    refine (step_la hQn.la).mono ?_
    rintro e w2 ⟨rfl, hA⟩
    have hQ2 := hQn.stepS hA
    clear hA
    have d39 := hQ2.la.c39
    have f39 := hQ2.la.frozen 39
    go_wp2_with (fail)
    have hsu := h.suf (tail_suf l)
    exact NxR.one hQ2 (tok0_38 r) (tok0_40 r) h.tok34 hcm he (by rw [hn]) (by rw [hn]) (by rw [hn]) hsu.1 hsu.2 ⟨rfl, rfl, rfl⟩
set_option maxRecDepth 1000000 in
set_option maxHeartbeats 16000000 in
theorem nx_hyphen {S : Nat → Prop} {B : Nat} {k : LK} {w0 w : World} {g : Nat} {s : ByteArray} {r : Nat → Value} {st : Nat} {l lt : List Int} {q : Nat} (h : NQ S B k w0 w g s r st l lt q) (hc : hd l = 45) (hnum : cnts (hd l) (pk l 1) (pk l 2) = false) (hcd : ¬ (pk l 1 = 45 ∧ pk l 2 = 62)) (hid : idnt (hd l) (pk l 1) (pk l 2) = false) (f : Nat → Value) :
    Code.wp Tryz.prog nxBody (NxR S B k w0 g s l) ⟨fr592 (.pointer (some ⟨g, 0, none⟩)) f, []⟩ w := by
  unfold fr592
  conv => arg 2; whnf
  have c36 := h.lq.la.c36
  have c37 := h.lq.la.c37
  have hps := ps_le s l
  have hsz := h.lq.la.size
  have zz : (st : Int) + ((ps s l : Int) - st) = (ps s l : Nat) := by omega
  have b2 : ((ps s l : Nat) : Int) ≤ 2147483647 := by omega
  go_upto_region 1 with (first | (go_at_call 24; refine (End_at _ _ (by omega) _).mono ?_; rintro e w1 ⟨rfl, hk1⟩; have hL := (h.lq.keepA hk1).la; have f36 := hL.frozen 36; have f37 := hL.frozen 37; have f38 := hL.frozen 38; have f39 := hL.frozen 39; have f40 := hL.frozen 40; have d36 := hL.c36; have d37 := hL.c37; have d38 := hL.c38; have d39 := hL.c39; have d40 := hL.c40; clear hL))
  have hQ := (h.lq.keepA hk1).start
  unfold wTok at hQ
  clear f36 f37 f38 f39 f40 d36 d37 d38 d39 d40 c36 c37 hk1 zz b2
  generalize ((((w1.setCell ⟨g, 36, none⟩ (.int .i32 (ps s l : Nat))).setCell ⟨g, 37, none⟩ (.int .i32 0)).setCell ⟨g, 38, none⟩ (.int .u16 0)).setCell ⟨g, 39, none⟩ (.int .u8 0)).setCell ⟨g, 40, none⟩ (.int .u8 0) = wt at hQ ⊢
  have c35 := hQ.la.c35
  have hcm : ¬ (hd l = 47 ∧ pk l 1 = 42) := by rw [hc]; exact fun e => absurd e.1 (by decide)
  have hne : l ≠ [] := by rintro rfl; exact absurd hc (by decide)
  have hST := h.lq.la.sfx.tl
  have hb2 := ps_le s l.tail
  have hi0 : (0 : Int) ≤ (ps s l.tail : Nat) := by omega
  have hw : IntKind.i64.wrap (((ps s l.tail : Nat) : Int) + 2) = ((ps s l.tail : Nat) : Int) + 2 := by rw [IntKind.wrap_i64]; omega
  have hi2 : ((ps s l.tail : Nat) : Int) ≤ ((ps s l.tail : Nat) : Int) + 2 := by omega
  have htn : (((ps s l.tail : Nat) : Int) + 2).toNat = ps s l.tail + 2 := by omega
  have hn : nextF l = ({ kind := 22 }, l.tail, false) := nextF_minus hc hnum hid
  have he : endF l = l.tail := by unfold endF; rw [if_neg (by rw [hc]; decide), hn]
  have HNP : Hid (¬ [45, 62] <+: l.tail) := Lib.hid (fun e => hcd (two_pre e))
  have HC := Lib.hid hc
  rw [hc] at c35
  clear hc hne hcd
  by_cases hsz3 : ps s l.tail + 2 ≤ s.size
  · have hgd : decide (((ps s l.tail : Nat) : Int) + 2 ≤ s.size) = true := decide_eq_true (by omega)
    have hi3 : ((ps s l.tail : Nat) : Int) + 2 ≤ s.size := by omega
    have kx : ((s.extract (ps s l.tail) (ps s l.tail + 2)).toList == [45, 62]) = false := by
      rw [ByteArray.toList_eq, beq_eq_false_iff_ne]
      exact fun e => HNP.out ((pre_ext hST (p := [45, 62]) (by decide) 2 rfl).1 e)
    clear hST hsz3
    go_wp2_with (fail)
    refine (wouldStartNumber_la hQ.la).mono ?_
    rintro e w1 ⟨rfl, rfl⟩
    rw [hnum]
    have c10 := hQ.la.c10
    have c33 := hQ.la.c33
    go_wp2_with (fail)
    go_quiet (fail)
    have hKn : KeepA wt (wt.drewN nq) := (Keep.refl _ _).drewN nq
    have hQn := hQ.keepA hKn
    clear hQ hKn c10 c33 c35
    go_wp2_with (fail)
    refine (wouldStartIdentifier_la hQn.la).mono ?_
    rintro e w4 ⟨rfl, hK4⟩
    rw [hid]
    have hQ1 := hQn.keepA hK4
    clear hQn hK4
    go_wp2_with (fail)
    refine (step_la hQ1.la).mono ?_
    rintro e w2 ⟨rfl, hA⟩
    have hQ2 := hQ1.stepS hA
    clear hA
    have d39 := hQ2.la.c39
    have f39 := hQ2.la.frozen 39
    go_wp2_with (fail)
    have hsu := h.suf (tail_suf l)
    exact NxR.one hQ2 (tok0_38 r) (tok0_40 r) h.tok34 hcm he (by rw [hn]) (by rw [hn]) (by rw [hn]) hsu.1 hsu.2 ⟨rfl, rfl, rfl⟩
  · have hgd : decide (((ps s l.tail : Nat) : Int) + 2 ≤ s.size) = false := decide_eq_false (by omega)
    have hi3 : ¬ ((ps s l.tail : Nat) : Int) + 2 ≤ s.size := by omega
    clear hST hsz3
    go_wp2_with (fail)
    refine (wouldStartNumber_la hQ.la).mono ?_
    rintro e w1 ⟨rfl, rfl⟩
    rw [hnum]
    have c10 := hQ.la.c10
    have c33 := hQ.la.c33
    go_wp2_with (fail)
    go_quiet (fail)
    have hKn : KeepA wt (wt.drewN nq) := (Keep.refl _ _).drewN nq
    have hQn := hQ.keepA hKn
    clear hQ hKn c10 c33 c35
    go_wp2_with (fail)
    refine (wouldStartIdentifier_la hQn.la).mono ?_
    rintro e w4 ⟨rfl, hK4⟩
    rw [hid]
    have hQ1 := hQn.keepA hK4
    clear hQn hK4
    go_wp2_with (fail)
    refine (step_la hQ1.la).mono ?_
    rintro e w2 ⟨rfl, hA⟩
    have hQ2 := hQ1.stepS hA
    clear hA
    have d39 := hQ2.la.c39
    have f39 := hQ2.la.frozen 39
    go_wp2_with (fail)
    have hsu := h.suf (tail_suf l)
    exact NxR.one hQ2 (tok0_38 r) (tok0_40 r) h.tok34 hcm he (by rw [hn]) (by rw [hn]) (by rw [hn]) hsu.1 hsu.2 ⟨rfl, rfl, rfl⟩
end Go.Proofs.YtedckphklebndaaGreatDoor
