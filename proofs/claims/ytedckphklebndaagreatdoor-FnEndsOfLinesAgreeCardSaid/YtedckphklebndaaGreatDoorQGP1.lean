/- The package's consumeEscape, walked. Conditions: those of the lexer in memory (LA); no line ends behind digits. -/
import Derived.Test.YtedckphklebndaaGreatDoorQV
namespace Go.Proofs.YtedckphklebndaaGreatDoor
open Go Go.RowKit
/-- consumeEscape's loop over digits. -/
def PX (w0 : World) (g : Nat) (s : ByteArray) (r : Nat → Value) (st : Nat) (l : List Int) (n : Nat) (a b : Value) (w : World) : Prop :=
  ∃ l' x, n ≤ 5 ∧ a = .int .i64 x ∧ b = .int .i64 (5 - (n : Int)) ∧ 0 ≤ x ∧ x < 16 ^ (6 - n) ∧ hexs n x l' = hexs 6 0 l ∧ LA w0 w g s r st l'
theorem PX.next {w0 : World} {g : Nat} {s : ByteArray} {r : Nat → Value} {st : Nat} {l : List Int} {n : Nat} {l' : List Int} {x : Int} {w : World} {a b : Value} (hn : n + 1 ≤ 5) (h0 : 0 ≤ x) (h1 : x < 16 ^ (6 - (n + 1))) (he : hexs (n + 1) x l' = hexs 6 0 l) (hv : 0 ≤ hexv (hd l'))
    (ha : a = .int .i64 (x * 16 + hexv (hd l'))) (hb : b = .int .i64 (5 - ((n : Int) + 1) + 1)) (hA : LA w0 w g s r st l'.tail) : PX w0 g s r st l n a b w := by
  have := hexv_lt (hd l')
  refine ⟨l'.tail, x * 16 + hexv (hd l'), by omega, ha, by rw [hb]; congr 1; omega, by omega, ?_, by rw [← he, hexs_go hv], hA⟩
  have e : 6 - n = (6 - (n + 1)) + 1 := by omega
  rw [e, Int.pow_succ]
  omega
set_option maxRecDepth 100000 in
set_option maxHeartbeats 4000000 in
theorem consumeEscape_la {w0 w : World} {g : Nat} {s : ByteArray} {r : Nat → Value} {st : Nat} {l : List Int} (h : LA w0 w g s r st l) (ho : (escF l.tail).2.2 = false) :
    Calls Tryz.prog 109 #[.pointer (some ⟨g, 0, none⟩)] w fun e w' => e = .returned (.int .i32 (escF l.tail).1) ∧ LA w0 w' g s r st (escF l.tail).2.1 := by
  by_cases hx : hexv (hd l.tail) < 0
  · cases ht : l.tail with
    | nil => rw [ht] at ho; cases ho
    | cons c t =>
      rw [ht] at hx
      have HE : Hid (escF (c :: t) = (c, t, false)) := Lib.hid (by simp only [hd_cons] at hx; simp [escF, hx])
      have b0 : (c == -1) = false := by have := h.sfx.tl.all; rw [ht] at this; have := this.head.1; simp; omega
      have k1 : hxb c = false := by unfold hxb; simp only [hd_cons] at hx; exact decide_eq_false (by omega)
      have HT := Lib.hid ht
      clear hx ho ht
      go_enter Tryz.func109, Tryz.ntmps109
      go_wp2_with fail
      refine (step_la h).mono ?_
      rintro e w1 ⟨rfl, hA⟩
      rw [HT.out] at hA
      have c35 := hA.c35
      rw [hd_cons] at c35
      go_wp2_with (go_at_call 61; refine (isHex_calls _ _).mono ?_; rintro e w' ⟨rfl, rfl⟩)
      refine (step_la hA).mono ?_
      rintro e w2 ⟨rfl, hA2⟩
      go_wp2_with fail
      go_ret
      rw [HE.out]
      exact ⟨rfl, by simpa using hA2⟩
  · have hne : l.tail ≠ [] := by intro e; rw [e] at hx; simp [hexv] at hx
    obtain ⟨t, ht⟩ : ∃ t, l.tail = t := ⟨_, rfl⟩
    rw [ht] at hx ho hne ⊢
    have HE : Hid (escF t = (escVal (hexs 6 0 t).1, escRest (hexs 6 0 t).2, isNL (hd (hexs 6 0 t).2))) := Lib.hid (by
      cases t with
      | nil => exact absurd rfl hne
      | cons c t => simp only [hd_cons] at hx; simp [escF, hx])
    have HO : Hid (isNL (hd (hexs 6 0 t).2) = false) := Lib.hid (by rw [HE.out] at ho; exact ho)
    have k1 : hxb (hd t) = true := by unfold hxb; exact decide_eq_true (by omega)
    have k2 : hxv (hd t) = hexv (hd t) := by unfold hxv; exact if_pos (by omega)
    have b0 : 0 ≤ hexv (hd t) := by omega
    have HT := Lib.hid ht
    clear hx ho hne ht
    go_enter Tryz.func109, Tryz.ntmps109
    go_wp2_with fail
    refine (step_la h).mono ?_
    rintro e w1 ⟨rfl, hA⟩
    rw [HT.out] at hA
    have c35 := hA.c35
    go_wp2_with (go_at_call 61; refine (isHex_calls _ _).mono ?_; rintro e w' ⟨rfl, rfl⟩)
    refine (step_la hA).mono ?_
    rintro e w2 ⟨rfl, hA2⟩
    clear c35
    go_wp2_with fail
    go_loopg [4, 6] 5 (fun k a b wr => PX w0 g s r st t k a b wr)
    case atStart =>
      have h16 := (hexv_lt (hd t)).2
      exact ⟨t.tail, hexv (hd t), by omega, rfl, rfl, b0, by simpa using h16, by rw [hexs_go b0, Int.zero_mul, Int.zero_add], hA2⟩
    case round =>
      obtain ⟨l', x, hn, rfl, rfl, x0, x1, he, hB⟩ := hrel
      clear h b0 hA hA2 k1 k2
      have HX1 := Lib.hid x1
      have HQ := Lib.hid he
      have x2 := pow_small (by omega) x1
      clear x1 he
      have c35 := hB.c35
      by_cases hg : 0 < gk ∧ 0 ≤ hexv (hd l')
      · obtain ⟨g1, g2⟩ := hg
        obtain ⟨n, rfl⟩ : ∃ n, gk = n + 1 := ⟨gk - 1, by omega⟩
        have g3 := (hexv_lt (hd l')).2
        have k1 : hxb (hd l') = true := by unfold hxb; exact decide_eq_true (by omega)
        have k2 : hxv (hd l') = hexv (hd l') := by unfold hxv; exact if_pos (by omega)
        go_wp2_with (first | (go_at_call 61; refine (isHex_calls _ _).mono ?_; rintro e w' ⟨rfl, rfl⟩) | (go_at_call 56; refine (step_la hB).mono ?_; rintro e w' ⟨rfl, hB2⟩))
        go_roundg n
        case measure => omega
        case rel => exact PX.next hn x0 HX1.out HQ.out g2 rfl rfl hB2
      · have HS : Hid (hexs 6 0 t = (x, l')) := by
          have e := HQ.out
          rcases Nat.eq_zero_or_pos gk with h0 | h0
          · subst h0; exact Lib.hid e.symm
          · rw [hexs_stop (by omega)] at e; exact Lib.hid e.symm
        have HF : Hid (escF t = (escVal x, escRest l', isNL (hd l'))) := Lib.hid (by rw [HE.out, HS.out])
        have ht : Hid (isNL (hd l') = false) := Lib.hid (by have := HO.out; rwa [HS.out] at this)
        have hgk : gk = 0 ∨ (0 < gk ∧ hxb (hd l') = false) := by
          rcases Nat.eq_zero_or_pos gk with h0 | h0
          · exact .inl h0
          · exact .inr ⟨h0, by unfold hxb; exact decide_eq_false (by omega)⟩
        clear HE HQ HS HX1 hg HO
        rcases hgk with h0 | ⟨h0, h0'⟩
        all_goals
          try subst h0
          cases hu : isSp (hd l')
          · have HR : Hid (escRest l' = l') := Lib.hid (by unfold escRest; rw [ht.out, hu]; rfl)
            rcases esc_cases x x0 with ⟨b1, HV⟩ | ⟨b1, b2, HV⟩ | ⟨b1, b2, b3, HV⟩ | ⟨b1, b2, HV⟩ | ⟨b1, b2, b3, HV⟩
            all_goals
              go_wp2_with (first | (go_at_call 61; refine (isHex_calls _ _).mono ?_; rintro e w' ⟨rfl, rfl⟩) | (go_at_call 34; refine (isWhitespace_calls _ _).mono ?_; rintro e w' ⟨rfl, rfl⟩))
              go_ret
              rw [HF.out]
              exact ⟨ret_int HV.out.symm, by simpa [HR.out] using hB⟩
          · have HR : Hid (escRest l' = l'.tail) := Lib.hid (by unfold escRest; rw [ht.out, hu]; rfl)
            rcases esc_cases x x0 with ⟨b1, HV⟩ | ⟨b1, b2, HV⟩ | ⟨b1, b2, b3, HV⟩ | ⟨b1, b2, HV⟩ | ⟨b1, b2, b3, HV⟩
            all_goals
              go_wp2_with (first | (go_at_call 61; refine (isHex_calls _ _).mono ?_; rintro e w' ⟨rfl, rfl⟩) | (go_at_call 34; refine (isWhitespace_calls _ _).mono ?_; rintro e w' ⟨rfl, rfl⟩))
              refine (step_la hB).mono ?_
              rintro e w3 ⟨rfl, hB2⟩
              go_wp2_with fail
              go_ret
              rw [HF.out]
              exact ⟨ret_int HV.out.symm, by simpa [HR.out] using hB2⟩
end Go.Proofs.YtedckphklebndaaGreatDoor
/- The package's consumeName: the plain laws and what a builder of strings keeps. No condition. -/
namespace Go.Proofs.YtedckphklebndaaGreatDoor
open Go Go.RowKit
theorem ownsRowF_keep {w w1 : World} {S : Nat → Prop} {base : Nat} {e : TypeId} {size : Nat} {v : Value} {n : Nat} {xs : List Value} (h : w.ownsRowF base e size v n xs) (k : Keep S w w1) (hs : ∀ j, base ≤ j → ¬ S j) : w1.ownsRowF base e size v n xs := by
  refine ⟨h.1, ?_⟩
  rcases h.2 with hn | ⟨g, cap, cur, fz, rfl, hb, hgg, rest⟩
  · exact .inl hn
  · exact .inr ⟨g, cap, cur, fz, rfl, hb, k.blk hgg (hs g hb), rest⟩
theorem builder_keep {w w1 : World} {S : Nat → Prop} {T e : TypeId} {B b : Nat} {bs : List Value} (h : Lib.IsBuilderF T e B b bs w) (k : Keep S w w1) (hs : ∀ j, B ≤ j → ¬ S j) : Lib.IsBuilderF T e B b bs w1 := by
  have one : ∀ p, Lib.BuilderAtF T e B b p bs w → Lib.BuilderAtF T e B b p bs w1 := by
    rintro p ⟨hB, v, hb, hown, hne⟩
    exact ⟨hB, v, k.blk hb (hs b hB), ownsRowF_keep hown k hs, hne⟩
  exact h.elim (fun x => .inl (one _ x)) (fun x => .inr (one _ x))
/-- The bytes behind a code point's first one. -/
theorem enc_tail (c : Int) : ∀ b ∈ (enc c).tail, 128 ≤ b.toNat := by
  intro b hb
  unfold enc Lib.encodeRune Lib.encodeRuneZ at hb
  have tn : ∀ z : Int, 0 ≤ z → z < 256 → (z.toNat.toUInt8).toNat = z.toNat := fun z h0 h1 => by
    simp only [Nat.toUInt8, UInt8.toNat_ofNat']
    omega
  split at hb
  · simp at hb
  · split at hb
    · simp only [List.map_cons, List.map_nil, List.tail_cons, List.mem_singleton] at hb
      rw [hb, tn _ (by omega) (by omega)]; omega
    · split at hb
      · simp only [List.map_cons, List.map_nil, List.tail_cons, List.mem_cons, List.not_mem_nil, or_false] at hb
        rcases hb with rfl | rfl <;> (rw [tn _ (by omega) (by omega)]; omega)
      · split at hb
        · simp only [List.map_cons, List.map_nil, List.tail_cons, List.mem_cons, List.not_mem_nil, or_false] at hb
          rcases hb with rfl | rfl | rfl <;> (rw [tn _ (by omega) (by omega)]; omega)
        · simp only [List.map_cons, List.map_nil, List.tail_cons, List.mem_cons, List.not_mem_nil, or_false] at hb
          rcases hb with rfl | rfl <;> decide
/-- Within a text of which a stretch is gone over byte by byte: 'q' is left of a code point, then 't' follows. -/
def BY (s : ByteArray) (i : Nat) (q : List UInt8) (t : List Int) : Prop := i ≤ s.size ∧ s.data.toList.drop i = q ++ encs t ∧ RnAll t ∧ ∀ b ∈ q, 128 ≤ b.toNat
theorem BY.start {s : ByteArray} {t : List Int} (h : Sfx s t) : BY s (ps s t) [] t := ⟨ps_le s t, h.bytes, h.all, fun _ e => by cases e⟩
theorem BY.sfx {s : ByteArray} {i : Nat} {t : List Int} (h : BY s i [] t) : Sfx s t ∧ i = ps s t := by
  obtain ⟨hi, hb, ha, _⟩ := h
  have hz : s.data.toList.length = s.size := by simp
  refine ⟨⟨⟨s.data.toList.take i, ?_⟩, ha⟩, ?_⟩
  · rw [List.nil_append] at hb; rw [← hb, List.take_append_drop]
  · have := congrArg List.length hb
    rw [List.length_drop, List.nil_append] at this
    unfold ps; omega
theorem BY.lt {s : ByteArray} {i : Nat} {q : List UInt8} {t : List Int} (h : BY s i q t) : i < s.size ↔ (q ≠ [] ∨ t ≠ []) := by
  obtain ⟨hi, hb, ha, _⟩ := h
  have hz : s.data.toList.length = s.size := by simp
  have hl := congrArg List.length hb
  rw [List.length_drop, List.length_append] at hl
  constructor
  · intro h1
    cases q with
    | cons b q => exact .inl (by simp)
    | nil =>
      cases t with
      | nil => simp [encs] at hl; omega
      | cons c t => exact .inr (by simp)
  · rintro (h1 | h1)
    · cases q with
      | nil => exact absurd rfl h1
      | cons b q => simp only [List.length_cons] at hl; omega
    · have := encs_ge t
      cases t with
      | nil => exact absurd rfl h1
      | cons c t => simp only [List.length_cons] at this; omega
/-- A byte further, within a code point. -/
theorem BY.more {s : ByteArray} {i : Nat} {b : UInt8} {q : List UInt8} {t : List Int} (h : BY s i (b :: q) t) : BY s (i + 1) q t ∧ ∀ hi : i < s.size, 128 ≤ ((s[i]'hi).toNat) := by
  have hlt := (BY.lt h).2 (.inl (by simp))
  obtain ⟨hi, hb, ha, hq⟩ := h
  refine ⟨⟨by omega, ?_, ha, fun x hx => hq x (List.mem_cons_of_mem _ hx)⟩, fun hi => ?_⟩
  · rw [← List.drop_drop, hb]; rfl
  · have h1 := list_get_ba s i hi
    have h2 : (s.data.toList.drop i)[0]? = some b := by rw [hb]; rfl
    rw [List.getElem?_drop, Nat.add_zero, h1] at h2
    injection h2 with h2
    rw [h2]
    exact hq b (List.mem_cons_self ..)
/-- A byte further, at a code point's first one. -/
theorem BY.next {s : ByteArray} {i : Nat} {c : Int} {t : List Int} (h : BY s i [] (c :: t)) : BY s (i + 1) (enc c).tail t ∧ ∀ hi : i < s.size, (((s[i]'hi).toNat : Nat) : Int) = lead c := by
  have hlt := (BY.lt h).2 (.inr (by simp))
  have hs := h.sfx
  obtain ⟨hi, hb, ha, hq⟩ := h
  refine ⟨⟨by omega, ?_, ha.tail, enc_tail c⟩, fun hi => byte_at hs.1 hi hs.2⟩
  obtain ⟨u, hu⟩ := enc_lead ha.head
  rw [← List.drop_drop, hb, List.nil_append, encs, hu]; rfl
theorem cont_lead {c : Int} (h : Rn c) : cont0 (lead c) = cont c := by
  by_cases h1 : c < 128
  · have := h.1
    rw [lead_low h1]
    unfold cont0 cont strt0
    rw [show (c == 0) = false by simp; omega, Bool.or_false]
  · have := lead_high h (by omega)
    have e1 : strt (lead c) = true := by unfold strt; simp; omega
    have e2 : strt c = true := by unfold strt; simp; omega
    unfold cont0 cont strt0
    rw [e1, e2]; rfl
theorem cont_high {b : Nat} (h : 128 ≤ b) : cont0 (b : Int) = true := by
  have e1 : strt (b : Int) = true := by unfold strt; simp; omega
  unfold cont0 strt0
  rw [e1]; rfl
/-- A name's plain part. -/
def plainF (l : List Int) : List Int := l.dropWhile cont
theorem nameF_plain (l : List Int) : nameF l = (encs (l.takeWhile cont) ++ (nameF (plainF l)).1, (nameF (plainF l)).2) := by
  induction l with
  | nil => rw [plainF]; simp only [List.dropWhile_nil, List.takeWhile_nil]; rw [nameF]; rfl
  | cons c t ih =>
    unfold plainF
    cases hc : cont c with
    | true => rw [nameF, if_pos hc, ih, List.takeWhile_cons_of_pos hc, List.dropWhile_cons_of_pos hc, encs, List.append_assoc]; rfl
    | false => rw [List.takeWhile_cons_of_neg (by simp [hc]), List.dropWhile_cons_of_neg (by simp [hc])]; rfl
theorem plainF_hd (l : List Int) : cont (hd (plainF l)) = false := by
  unfold plainF
  induction l with
  | nil => rfl
  | cons c t ih =>
    cases hc : cont c with
    | true => rw [List.dropWhile_cons_of_pos hc]; exact ih
    | false => rw [List.dropWhile_cons_of_neg (by simp [hc])]; exact hc
theorem plainF_suf (l : List Int) : plainF l <:+ l := List.dropWhile_suffix _
theorem plainF_go {c : Int} {t : List Int} (h : cont c = true) : plainF (c :: t) = plainF t := List.dropWhile_cons_of_pos h
theorem plainF_stop {t : List Int} (h : cont (hd t) = false) : plainF t = t := by
  cases t with
  | nil => rfl
  | cons c t => exact List.dropWhile_cons_of_neg (by simpa using h)
end Go.Proofs.YtedckphklebndaaGreatDoor
/- The package's consumeName, walked. Conditions: those of the lexer in memory (LA); nothing is left open. -/
namespace Go.Proofs.YtedckphklebndaaGreatDoor
open Go Go.RowKit
set_option maxHeartbeats 1000000 in
theorem End_calls (a b : Int) (h : -2147483648 ≤ a + b ∧ a + b ≤ 2147483647) (w : World) : Calls Tryz.prog 24 #[.agg #[.int .i32 a, .int .i32 b]] w fun e w' => e = .returned (.int .i32 (a + b)) ∧ KeepA w w' := by
  have hw : IntKind.i32.wrap (a + b) = a + b := by rw [IntKind.wrap_i32]; omega
  obtain ⟨h1, h2⟩ := h
  go_enter Tryz.func24, Tryz.ntmps24
  go_wp2
  go_ret
  exact ⟨rfl, (Keep.refl _ _).alloc _⟩
theorem End_at (a p : Nat) (h : p ≤ 1073741824) (w : World) : Calls Tryz.prog 24 #[.agg #[.int .i32 a, .int .i32 ((p : Int) - a)]] w fun e w' => e = .returned (.int .i32 (p : Nat)) ∧ KeepA w w' := by
  have := End_calls (a : Int) ((p : Int) - a) (by omega) w
  rwa [show (a : Int) + ((p : Int) - a) = p by omega] at this
/-- The place is set anew, further on. -/
theorem LA.jump {w0 w : World} {g : Nat} {s : ByteArray} {r : Nat → Value} {st : Nat} {l t : List Int} (h : LA w0 w g s r st l) (hS : Sfx s t) (hle : ps s l.tail ≤ ps s t) : LB w0 (w.setCell ⟨g, 33, none⟩ (.int .i64 (ps s t))) g s r st t := by
  have hb := h.big
  have h0 := h.lb
  have h1 := h0.from_
  obtain ⟨nl, n0, n1, hL⟩ := h.lx
  have hK : KeepB g w (w.setCell ⟨g, 33, none⟩ (.int .i64 (ps s t))) := (Keep.refl (fun k => k = g) w).setCell (p := ⟨g, 33, none⟩) (fun _ => rfl) _
  exact ⟨⟨nl, hd l, (ps s l : Int) - st, n0, by omega, (blk_set hL 33 _).trans rfl⟩, hS, h.kp.trans hK, h.size, tabs_keep h.tabs hK (by omega) (by omega), h.big, by omega⟩
theorem ext_sfx {s : ByteArray} {a t : List Int} (h : Sfx s (a ++ t)) : (s.extract (ps s (a ++ t)) (ps s t)).data.toList = encs a := by
  have h1 := h.bytes
  have h2 := ps_append h
  rw [Lib.extract_data, h1, h2, encs_append, Nat.add_sub_cancel_left, List.take_left']
  rfl
theorem ext_size (s : ByteArray) (a b : Nat) : (s.extract a b).size ≤ b := by
  rw [Lib.size_eq, Lib.extract_data, List.length_take]; omega
theorem Keep.below' {B : Nat} {w w1 : World} (h : Below B w w1) : Keep (fun k => B ≤ k) w w1 := ⟨h.os, h.tape, h.output, h.size, fun i _ hn => h.block i (by omega)⟩
theorem LA.below {w0 w w1 : World} {g : Nat} {s : ByteArray} {r : Nat → Value} {st B : Nat} {l : List Int} (h : LA w0 w g s r st l) (hb : Below B w w1) (hB : w0.heap.size ≤ B) (hg : g < B) : LA w0 w1 g s r st l := by
  have h2 := h.big
  exact h.keep (Keep.below' hb) (fun j _ e => Nat.le_trans hB e) (by omega) (by omega) (by omega)
theorem LA.len {w0 w : World} {g : Nat} {s : ByteArray} {r : Nat → Value} {st : Nat} {l : List Int} (h : LA w0 w g s r st l) : l.length ≤ 1073741824 := by
  have h1 := h.sfx.fits
  have h2 := encs_ge l
  have := h.size
  omega
theorem wrote {b : Nat} {bs : List UInt8} {w : World} {r : Int} (h : Lib.BuilderAtF 126 5 b b (.pointer (some ⟨b, 0, none⟩)) (Lib.byteCells bs ++ Lib.runeCells r) w) : Lib.IsBuilderF 126 5 b b (Lib.byteCells (bs ++ enc r)) w := by
  rw [Lib.byteCells_append, show Lib.byteCells (enc r) = Lib.runeCells r from Lib.byteCells_encodeRune r]
  exact .inr h
/-- consumeName's loop behind the first escape. -/
def NE (w0 : World) (g : Nat) (s : ByteArray) (r : Nat → Value) (st b : Nat) (T : List UInt8) (E : List Int) (k : Nat) (w : World) : Prop :=
  ∃ l' bs, l'.length = k ∧ Lib.IsBuilderF 126 5 b b (Lib.byteCells bs) w ∧ bs ++ (nameF l').1 = T ∧ (nameF l').2.1 = E ∧ (nameF l').2.2 = false ∧ LA w0 w g s r st l' ∧ b ≤ w.heap.size
/-- consumeName's loop over bytes. -/
def NB (s : ByteArray) (l : List Int) (w0 : World) (k : Nat) (a : Value) (w : World) : Prop :=
  w = w0 ∧ ∃ i q t, a = .int .i64 (i : Nat) ∧ k = s.size - i ∧ BY s i q t ∧ plainF t = plainF l ∧ ps s l.tail ≤ i
set_option maxRecDepth 100000 in
set_option maxHeartbeats 4000000 in
theorem consumeName_la {w0 w : World} {g : Nat} {s : ByteArray} {r : Nat → Value} {st : Nat} {l : List Int} (h : LA w0 w g s r st l) (ho : (nameF l).2.2 = false) :
    Calls Tryz.prog 82 #[.pointer (some ⟨g, 0, none⟩)] w fun e w' => ∃ R : ByteArray, e = .returned (.string R) ∧ (st = ps s l → R.data.toList = (nameF l).1) ∧ LA w0 w' g s r st (nameF l).2.1 := by
  have c10 := h.c10
  have c35 := h.c35
  go_enter Tryz.func82, Tryz.ntmps82
  go_upto_if 17 with (go_at_call 79; refine (IsNameContinue_calls _ _).mono ?_; rintro e w' ⟨rfl, rfl⟩)
  go_cut [] (fun wc => LA w0 wc g s r st (plainF l))
  case first =>
    cases hc : cont (hd l) with
    | false =>
      have hc0 : cont0 (hd l) = false := by rw [cont0_hd h.sfx.all]; exact hc
      have HP := Lib.hid (plainF_stop hc)
      clear hc
      rw [hc0]
      go_wp2_with fail
      go_meet
      case rel => rw [HP.out]; exact h
    | true =>
      have hc0 : cont0 (hd l) = true := by rw [cont0_hd h.sfx.all]; exact hc
      have c33 := h.c33
      have hsz := h.size
      have HC := Lib.hid hc
      clear hc
      rw [hc0]
      go_wp2_with fail
      go_loopg [5] (s.size - ps s l.tail) (fun k a wr => NB s l w k a wr)
      case atStart =>
        refine ⟨rfl, ps s l.tail, [], l.tail, rfl, rfl, BY.start h.sfx.tl, ?_, Nat.le_refl _⟩
        have hc := HC.out
        cases l with
        | nil => simp [cont, strt, isDg] at hc
        | cons c t => exact (plainF_go hc).symm
      case round =>
        obtain ⟨hw, i, q, t, ha, hk, hB, hp, hi⟩ := hrel
        subst ha hw
        have HK := Lib.hid hk
        have HB := Lib.hid hB
        have HP := Lib.hid hp
        clear hk hp
        have hle := hB.1
        cases q with
        | cons b q =>
          have hlt := (BY.lt hB).2 (.inl (by simp))
          obtain ⟨x, hx⟩ : ∃ x : Nat, ∀ hi : i < s.size, ((s[i]'hi).toNat) = x := ⟨(s[i]'hlt).toNat, fun _ => rfl⟩
          have hx2 := hB.more.2 hlt
          rw [hx] at hx2
          have hc1 : cont0 (x : Int) = true := cont_high hx2
          have hx3 : x < 256 := by rw [← hx hlt]; exact UInt8.toNat_lt _
          clear hx2 hB
          go_wp2_with (go_at_call 79; refine (IsNameContinue_calls _ _).mono ?_; rintro e w' ⟨rfl, rfl⟩)
          go_roundg (s.size - (i + 1))
          case measure => have := HK.out; omega
          case rel => exact ⟨rfl, i + 1, q, t, rfl, rfl, HB.out.more.1, HP.out, by omega⟩
        | nil =>
          have hS := hB.sfx
          by_cases hct : cont (hd t) = true
          · cases t with
            | nil => simp [cont, strt, isDg] at hct
            | cons c t =>
              have hlt := (BY.lt hB).2 (.inr (by simp))
              have hx := hB.next.2
              have hc1 : cont0 (lead c) = true := by rw [cont_lead hB.2.2.1.head]; exact hct
              have hl := lead_byte hB.2.2.1.head
              obtain ⟨x, hx1⟩ : ∃ x, lead c = x := ⟨_, rfl⟩
              rw [hx1] at hx hc1 hl
              have HX := Lib.hid hct
              clear hB hx1 hct hS
              go_wp2_with (go_at_call 79; refine (IsNameContinue_calls _ _).mono ?_; rintro e w' ⟨rfl, rfl⟩)
              go_roundg (s.size - (i + 1))
              case measure => have := HK.out; omega
              case rel => exact ⟨rfl, i + 1, _, t, rfl, rfl, HB.out.next.1, by rw [← HP.out]; exact (plainF_go HX.out).symm, by omega⟩
          · have hpt : plainF l = t := by rw [← HP.out]; exact plainF_stop (by simpa using hct)
            have hJ : LB w0 (wr.setCell ⟨g, 33, none⟩ (.int .i64 (i : Nat))) g s r st t := by
              have := h.jump hS.1 (by rw [← hS.2]; exact hi)
              rw [← hS.2] at this
              exact this
            have f33 := h.frozen 33
            have HT := Lib.hid hpt
            by_cases hn : t = []
            · have hnlt : ¬ i < s.size := by rw [BY.lt hB]; simp [hn]
              clear hct hpt hB hn hS
              go_wp2_with fail
              refine (step_lb hJ).mono ?_
              rintro e w3 ⟨rfl, hA3⟩
              go_wp2_with fail
              go_meet
              case rel => rw [HT.out]; exact hA3
            · cases t with
              | nil => exact absurd rfl hn
              | cons c t =>
                have hlt := (BY.lt hB).2 (.inr (by simp))
                have hx := hB.next.2
                have hc1 : cont0 (lead c) = false := by rw [cont_lead hB.2.2.1.head]; simpa using hct
                have hl := lead_byte hB.2.2.1.head
                obtain ⟨x, hx1⟩ : ∃ x, lead c = x := ⟨_, rfl⟩
                rw [hx1] at hx hc1 hl
                clear hB hx1 hct hpt hn hS
                go_wp2_with (first | (go_at_call 79; refine (IsNameContinue_calls _ _).mono ?_; rintro e w' ⟨rfl, rfl⟩) | (go_at_call 56; refine (step_lb hJ).mono ?_; rintro e w3 ⟨rfl, hA3⟩))
                go_meet
                case rel => rw [HT.out]; exact hA3
  case rest =>
    have hA := hcut
    obtain ⟨l', hl'⟩ : ∃ x, plainF l = x := ⟨_, rfl⟩
    rw [hl'] at hA hcut
    have HL := Lib.hid hl'
    clear hl' hcut
    have d36 := hA.c36
    have d37 := hA.c37
    have d10 := hA.c10
    have b1 := ps_le s l'
    have b2 : ps s l' ≤ 1073741824 := Nat.le_trans b1 hA.size
    have b3 := hA.from_
    go_wp2_with fail
    go_cut [6] (fun u6 wd => u6 = .string (s.extract st (ps s l')) ∧ KeepA wc wd)
    case first =>
      go_region_with (first | (go_at_call 24; refine (End_at _ _ (by omega) _).mono ?_; rintro e w1 ⟨rfl, hk⟩; have e36 : w1.cell? ⟨g, 36, none⟩ = some (.int .i32 st) := hk.cell (p := ⟨g, 36, none⟩) d36 (fun e => e)))
      all_goals
        go_wp2_with fail
        go_meet
        case rel => exact ⟨rfl, (Keep.refl _ _).drew.trans hk⟩
    case rest =>
      obtain ⟨rfl, hk⟩ := hcut
      have hA2 := hA.keepA hk
      clear d36 d37 d10
      have HNP := Lib.hid (nameF_plain l)
      rw [HL.out] at HNP
      have hcl : Hid (cont (hd l') = false) := Lib.hid (by rw [← HL.out]; exact plainF_hd l)
      have HO := Lib.hid ho
      have HRAW : Hid (st = ps s l → (s.extract st (ps s l')).data.toList = encs (l.takeWhile cont)) := Lib.hid (by
        rintro rfl
        have e : l = l.takeWhile cont ++ l' := by rw [← HL.out]; exact (List.takeWhile_append_dropWhile).symm
        have hS := h.sfx
        have := ext_sfx (s := s) (a := l.takeWhile cont) (t := l') (by rw [← e]; exact hS)
        rw [← e] at this
        exact this)
      obtain ⟨raw, hraw⟩ : ∃ x, s.extract st (ps s l') = x := ⟨_, rfl⟩
      have hrs : raw.size ≤ 1073741824 := by rw [← hraw]; exact Nat.le_trans (ext_size _ _ _) b2
      rw [hraw] at HRAW
      rw [hraw]
      clear ho hraw
      cases he : escs (hd l') (pk l' 1) with
      | false =>
        have HE := Lib.hid (nameF_stop hcl.out he)
        go_wp2_with fail
        refine (isValidEscape_la hA2).mono ?_
        rintro e w1 ⟨rfl, hk1⟩
        rw [he]
        go_wp2_with fail
        go_ret
        refine ⟨raw, rfl, fun hst => ?_, ?_⟩
        · rw [HRAW.out hst, HNP.out, HE.out]; simp
        · rw [HNP.out, HE.out]; exact hA2.keepA hk1
      | true =>
        have HE := Lib.hid (nameF_esc hcl.out he)
        have HO2 : Hid ((escF l'.tail).2.2 = false ∧ (nameF (escF l'.tail).2.1).2.2 = false) := Lib.hid (by
          have := HO.out
          rw [HNP.out, HE.out] at this
          simpa using this)
        go_wp2_with fail
        refine (isValidEscape_la hA2).mono ?_
        rintro e w1 ⟨rfl, hk1⟩
        rw [he]
        clear he
        have hA3 := hA2.keepA hk1
        go_wp2_with fail
        have hA4 : LA w0 (w1.alloc (.cells #[.pointer none, .slice none 0 0] 126)) g s r st l' := hA3.keepA ((Keep.refl _ _).alloc _)
        have hb0 : Lib.IsBuilderF 126 5 w1.heap.size w1.heap.size (Lib.byteCells []) (w1.alloc (.cells #[.pointer none, .slice none 0 0] 126)) := Lib.IsBuilderF.of (Lib.fresh_isBuilder 126 5 w1)
        have hgl := hA3.lt
        have hw0 : w0.heap.size ≤ w1.heap.size := hA3.kp.size
        have hlen := hA3.len
        have HLT : Hid ((nameF l').1.length ≤ 4 * l'.length) := Lib.hid (nameF_text l')
        refine (Tryz.Builder_WriteString_k w1.heap.size w1.heap.size (Lib.byteCells []) raw _ hb0 (by simp [Lib.byteCells]; omega) (by simp)).mono ?_
        rintro e w2 ⟨rfl, hb2, hbel, _⟩
        have hA5 := hA4.below hbel hw0 hgl
        have hB5 : Lib.IsBuilderF 126 5 w1.heap.size w1.heap.size (Lib.byteCells raw.data.toList) w2 := by
          rw [Lib.strCells_eq] at hb2
          exact .inr hb2
        have hs2 := hbel.size
        clear hb2 hb0 hbel hA4
        obtain ⟨b, hb⟩ : ∃ b, w1.heap.size = b := ⟨_, rfl⟩
        have hbs : b ≤ w2.heap.size := by rw [← hb]; simp at hs2; omega
        rw [hb] at hB5 hgl hw0 ⊢
        clear hb hs2 hA3
        go_wp2_with fail
        refine (consumeEscape_la hA5.now HO2.out.1).mono ?_
        rintro e w3 ⟨rfl, hA6⟩
        have hB6 := builder_keep hB5 hA6.kp (fun j hj e => by omega)
        have hs3 := hA6.kp.size
        have hA7 := hA5.from hA6
        have hr := escF_rn hA5.sfx.tl.all
        clear hB5 hA6
        have hrl : raw.data.toList.length = raw.size := by simp
        obtain ⟨hr1, hr2, _⟩ := hr
        go_wp2_with fail
        refine (Tryz.Builder_WriteRune_k b b (Lib.byteCells raw.data.toList) (escF l'.tail).1 (by omega) (by omega) w3 hB6 (by rw [Lib.byteCells_length, hrl]; omega) (by omega)).mono ?_
        rintro e w4 ⟨rfl, hb4, hbel4, _⟩
        have hB7 := wrote hb4
        have hA8 := hA7.below hbel4 hw0 hgl
        have hs4 := hbel4.size
        clear hb4 hbel4 hB6 hA7 hA5
        have hb4 : b ≤ w4.heap.size := by omega
        go_wp2_with fail
        go_loopg [] (escF l'.tail).2.1.length (fun k wr => NE w0 g s r st b (raw.data.toList ++ (nameF l').1) (nameF l').2.1 k wr)
        case atStart =>
          refine ⟨_, _, rfl, hB7, ?_, ?_, HO2.out.2, hA8, hb4⟩
          · rw [HE.out]; simp
          · rw [HE.out]
        case round =>
          obtain ⟨l2, bs, hk2, hB, hT, hE, hO, hA9, hbw⟩ := hrel
          have HK := Lib.hid hk2
          have HT := Lib.hid hT
          have HE2 := Lib.hid hE
          have HO3 := Lib.hid hO
          have hbl : bs.length ≤ 1073741824 + 4 * 1073741824 := by
            have := congrArg List.length hT
            rw [List.length_append, List.length_append, hrl] at this
            have := HLT.out
            omega
          clear hk2 hT hE hO hB7 hA8 hb4 hs4 hs3 hbs hr1 hr2
          have c35 := hA9.c35
          cases hc : cont (hd l2) with
          | true =>
            have hc0 : cont0 (hd l2) = true := by rw [cont0_hd hA9.sfx.all]; exact hc
            have HC := Lib.hid (nameF_cont hc)
            have hne : hd l2 ≠ -1 := by intro e; rw [e] at hc; simp [cont, strt, isDg] at hc
            have HLt := Lib.hid (tail_lt hne)
            obtain ⟨hr1, hr2, _⟩ := hd_rn hA9.sfx.all hne
            clear hc hne
            go_wp2_with (go_at_call 79; refine (IsNameContinue_calls _ _).mono ?_; rintro e w' ⟨rfl, rfl⟩)
            refine (Tryz.Builder_WriteRune_k b b (Lib.byteCells bs) (hd l2) (by omega) (by omega) _ hB (by rw [Lib.byteCells_length]; omega) hbw).mono ?_
            rintro e w5 ⟨rfl, hb5, hbel5, _⟩
            have hB8 := wrote hb5
            have hA10 := hA9.below hbel5 hw0 hgl
            have hs5 := hbel5.size
            clear hb5 hbel5 hB hA9
            go_wp2_with fail
            refine (step_la hA10.now).mono ?_
            rintro e w6 ⟨rfl, hA11⟩
            have hB9 := builder_keep hB8 hA11.kp (fun j hj e => by omega)
            have hs6 := hA11.kp.size
            have hA12 := hA10.from hA11
            go_wp2_with fail
            go_roundg l2.tail.length
            case measure => rw [← HK.out]; exact HLt.out
            case rel =>
              refine ⟨l2.tail, _, rfl, hB9, ?_, ?_, ?_, hA12, by omega⟩
              · rw [← HT.out, HC.out]; simp
              · rw [← HE2.out, HC.out]
              · have := HO3.out; rw [HC.out] at this; exact this
          | false =>
            have hc0 : cont0 (hd l2) = false := by rw [cont0_hd hA9.sfx.all]; exact hc
            cases he2 : escs (hd l2) (pk l2 1) with
            | true =>
              have HC := Lib.hid (nameF_esc hc he2)
              have HO4 : Hid ((escF l2.tail).2.2 = false ∧ (nameF (escF l2.tail).2.1).2.2 = false) := Lib.hid (by
                have := HO3.out
                rw [HC.out] at this
                simpa using this)
              have hne : hd l2 ≠ -1 := by intro e; rw [e] at he2; simp [escs] at he2
              have HLt := Lib.hid (tail_lt hne)
              have HLe := Lib.hid (escF_le l2.tail)
              clear hc hne
              go_wp2_with (first | (go_at_call 79; refine (IsNameContinue_calls _ _).mono ?_; rintro e w' ⟨rfl, rfl⟩) | (go_at_call 80; refine (isValidEscape_la hA9).mono ?_; rintro e w5 ⟨rfl, hk5⟩; rw [he2]))
              have hA10 := hA9.keepA hk5
              have hB8 := builder_keep hB hk5 (fun j hj e => e)
              have hs5 := hk5.size
              refine (consumeEscape_la hA10.now HO4.out.1).mono ?_
              rintro e w6 ⟨rfl, hA11⟩
              have hB9 := builder_keep hB8 hA11.kp (fun j hj e => by omega)
              have hs6 := hA11.kp.size
              have hA12 := hA10.from hA11
              obtain ⟨hr1, hr2, _⟩ := escF_rn hA10.sfx.tl.all
              clear hB hB8 hA9 hA10 hA11 hk5
              go_wp2_with fail
              refine (Tryz.Builder_WriteRune_k b b (Lib.byteCells bs) (escF l2.tail).1 (by omega) (by omega) _ hB9 (by rw [Lib.byteCells_length]; omega) (by omega)).mono ?_
              rintro e w7 ⟨rfl, hb7, hbel7, _⟩
              have hB10 := wrote hb7
              have hA13 := hA12.below hbel7 hw0 hgl
              have hs7 := hbel7.size
              clear hb7 hbel7 hB9 hA12
              go_wp2_with fail
              go_roundg (escF l2.tail).2.1.length
              case measure => have := HK.out; have := HLt.out; have := HLe.out; omega
              case rel =>
                refine ⟨_, _, rfl, hB10, ?_, ?_, HO4.out.2, hA13, by omega⟩
                · rw [← HT.out, HC.out]; simp
                · rw [← HE2.out, HC.out]
            | false =>
              have HC := Lib.hid (nameF_stop hc he2)
              clear hc
              go_wp2_with (first | (go_at_call 79; refine (IsNameContinue_calls _ _).mono ?_; rintro e w' ⟨rfl, rfl⟩) | (go_at_call 80; refine (isValidEscape_la hA9).mono ?_; rintro e w5 ⟨rfl, hk5⟩; rw [he2]))
              have hA10 := hA9.keepA hk5
              have hB8 := builder_keep hB hk5 (fun j hj e => e)
              have hs5 := hk5.size
              refine (Tryz.Builder_String_any_k b b bs _ hB8 (by omega)).mono ?_
              rintro e w6 ⟨rfl, _, hbel6, _⟩
              have hA11 := hA10.below hbel6 hw0 hgl
              go_wp2_with fail
              go_ret
              refine ⟨_, rfl, fun hst => ?_, ?_⟩
              · have := HT.out
                rw [HC.out, List.append_nil] at this
                show bs = _
                rw [HNP.out, this, HRAW.out hst]
              · have := HE2.out
                rw [HC.out] at this
                rw [HNP.out]
                show LA w0 w6 g s r st (nameF l').2.1
                rw [← this]
                exact hA11
end Go.Proofs.YtedckphklebndaaGreatDoor
/- The package's lexer in memory: each of its cells that turn seldom, read and set; what stays of the others. No condition. -/
namespace Go.Proofs.YtedckphklebndaaGreatDoor
open Go Go.RowKit
theorem LA.c0 {w0 w : World} {g : Nat} {s : ByteArray} {r : Nat → Value} {st : Nat} {l : List Int} (h : LA w0 w g s r st l) : w.cell? ⟨g, 0, none⟩ = some (r 0) := by obtain ⟨_, _, _, hL⟩ := h.lx; exact (blk_cell hL 0).trans rfl
theorem LA.c1 {w0 w : World} {g : Nat} {s : ByteArray} {r : Nat → Value} {st : Nat} {l : List Int} (h : LA w0 w g s r st l) : w.cell? ⟨g, 1, none⟩ = some (r 1) := by obtain ⟨_, _, _, hL⟩ := h.lx; exact (blk_cell hL 1).trans rfl
theorem LA.c2 {w0 w : World} {g : Nat} {s : ByteArray} {r : Nat → Value} {st : Nat} {l : List Int} (h : LA w0 w g s r st l) : w.cell? ⟨g, 2, none⟩ = some (r 2) := by obtain ⟨_, _, _, hL⟩ := h.lx; exact (blk_cell hL 2).trans rfl
theorem LA.c3 {w0 w : World} {g : Nat} {s : ByteArray} {r : Nat → Value} {st : Nat} {l : List Int} (h : LA w0 w g s r st l) : w.cell? ⟨g, 3, none⟩ = some (r 3) := by obtain ⟨_, _, _, hL⟩ := h.lx; exact (blk_cell hL 3).trans rfl
theorem LA.c4 {w0 w : World} {g : Nat} {s : ByteArray} {r : Nat → Value} {st : Nat} {l : List Int} (h : LA w0 w g s r st l) : w.cell? ⟨g, 4, none⟩ = some (r 4) := by obtain ⟨_, _, _, hL⟩ := h.lx; exact (blk_cell hL 4).trans rfl
theorem LA.c5 {w0 w : World} {g : Nat} {s : ByteArray} {r : Nat → Value} {st : Nat} {l : List Int} (h : LA w0 w g s r st l) : w.cell? ⟨g, 5, none⟩ = some (r 5) := by obtain ⟨_, _, _, hL⟩ := h.lx; exact (blk_cell hL 5).trans rfl
theorem LA.c6 {w0 w : World} {g : Nat} {s : ByteArray} {r : Nat → Value} {st : Nat} {l : List Int} (h : LA w0 w g s r st l) : w.cell? ⟨g, 6, none⟩ = some (r 6) := by obtain ⟨_, _, _, hL⟩ := h.lx; exact (blk_cell hL 6).trans rfl
theorem LA.c7 {w0 w : World} {g : Nat} {s : ByteArray} {r : Nat → Value} {st : Nat} {l : List Int} (h : LA w0 w g s r st l) : w.cell? ⟨g, 7, none⟩ = some (r 7) := by obtain ⟨_, _, _, hL⟩ := h.lx; exact (blk_cell hL 7).trans rfl
theorem LA.c8 {w0 w : World} {g : Nat} {s : ByteArray} {r : Nat → Value} {st : Nat} {l : List Int} (h : LA w0 w g s r st l) : w.cell? ⟨g, 8, none⟩ = some (r 8) := by obtain ⟨_, _, _, hL⟩ := h.lx; exact (blk_cell hL 8).trans rfl
theorem LA.c9 {w0 w : World} {g : Nat} {s : ByteArray} {r : Nat → Value} {st : Nat} {l : List Int} (h : LA w0 w g s r st l) : w.cell? ⟨g, 9, none⟩ = some (r 9) := by obtain ⟨_, _, _, hL⟩ := h.lx; exact (blk_cell hL 9).trans rfl
theorem LA.c11 {w0 w : World} {g : Nat} {s : ByteArray} {r : Nat → Value} {st : Nat} {l : List Int} (h : LA w0 w g s r st l) : w.cell? ⟨g, 11, none⟩ = some (r 11) := by obtain ⟨_, _, _, hL⟩ := h.lx; exact (blk_cell hL 11).trans rfl
theorem LA.c12 {w0 w : World} {g : Nat} {s : ByteArray} {r : Nat → Value} {st : Nat} {l : List Int} (h : LA w0 w g s r st l) : w.cell? ⟨g, 12, none⟩ = some (r 12) := by obtain ⟨_, _, _, hL⟩ := h.lx; exact (blk_cell hL 12).trans rfl
theorem LA.c13 {w0 w : World} {g : Nat} {s : ByteArray} {r : Nat → Value} {st : Nat} {l : List Int} (h : LA w0 w g s r st l) : w.cell? ⟨g, 13, none⟩ = some (r 13) := by obtain ⟨_, _, _, hL⟩ := h.lx; exact (blk_cell hL 13).trans rfl
theorem LA.c14 {w0 w : World} {g : Nat} {s : ByteArray} {r : Nat → Value} {st : Nat} {l : List Int} (h : LA w0 w g s r st l) : w.cell? ⟨g, 14, none⟩ = some (r 14) := by obtain ⟨_, _, _, hL⟩ := h.lx; exact (blk_cell hL 14).trans rfl
theorem LA.c15 {w0 w : World} {g : Nat} {s : ByteArray} {r : Nat → Value} {st : Nat} {l : List Int} (h : LA w0 w g s r st l) : w.cell? ⟨g, 15, none⟩ = some (r 15) := by obtain ⟨_, _, _, hL⟩ := h.lx; exact (blk_cell hL 15).trans rfl
theorem LA.c16 {w0 w : World} {g : Nat} {s : ByteArray} {r : Nat → Value} {st : Nat} {l : List Int} (h : LA w0 w g s r st l) : w.cell? ⟨g, 16, none⟩ = some (r 16) := by obtain ⟨_, _, _, hL⟩ := h.lx; exact (blk_cell hL 16).trans rfl
theorem LA.c17 {w0 w : World} {g : Nat} {s : ByteArray} {r : Nat → Value} {st : Nat} {l : List Int} (h : LA w0 w g s r st l) : w.cell? ⟨g, 17, none⟩ = some (r 17) := by obtain ⟨_, _, _, hL⟩ := h.lx; exact (blk_cell hL 17).trans rfl
theorem LA.c18 {w0 w : World} {g : Nat} {s : ByteArray} {r : Nat → Value} {st : Nat} {l : List Int} (h : LA w0 w g s r st l) : w.cell? ⟨g, 18, none⟩ = some (r 18) := by obtain ⟨_, _, _, hL⟩ := h.lx; exact (blk_cell hL 18).trans rfl
theorem LA.c19 {w0 w : World} {g : Nat} {s : ByteArray} {r : Nat → Value} {st : Nat} {l : List Int} (h : LA w0 w g s r st l) : w.cell? ⟨g, 19, none⟩ = some (r 19) := by obtain ⟨_, _, _, hL⟩ := h.lx; exact (blk_cell hL 19).trans rfl
theorem LA.c20 {w0 w : World} {g : Nat} {s : ByteArray} {r : Nat → Value} {st : Nat} {l : List Int} (h : LA w0 w g s r st l) : w.cell? ⟨g, 20, none⟩ = some (r 20) := by obtain ⟨_, _, _, hL⟩ := h.lx; exact (blk_cell hL 20).trans rfl
theorem LA.c21 {w0 w : World} {g : Nat} {s : ByteArray} {r : Nat → Value} {st : Nat} {l : List Int} (h : LA w0 w g s r st l) : w.cell? ⟨g, 21, none⟩ = some (r 21) := by obtain ⟨_, _, _, hL⟩ := h.lx; exact (blk_cell hL 21).trans rfl
theorem LA.c22 {w0 w : World} {g : Nat} {s : ByteArray} {r : Nat → Value} {st : Nat} {l : List Int} (h : LA w0 w g s r st l) : w.cell? ⟨g, 22, none⟩ = some (r 22) := by obtain ⟨_, _, _, hL⟩ := h.lx; exact (blk_cell hL 22).trans rfl
theorem LA.c23 {w0 w : World} {g : Nat} {s : ByteArray} {r : Nat → Value} {st : Nat} {l : List Int} (h : LA w0 w g s r st l) : w.cell? ⟨g, 23, none⟩ = some (r 23) := by obtain ⟨_, _, _, hL⟩ := h.lx; exact (blk_cell hL 23).trans rfl
theorem LA.c24 {w0 w : World} {g : Nat} {s : ByteArray} {r : Nat → Value} {st : Nat} {l : List Int} (h : LA w0 w g s r st l) : w.cell? ⟨g, 24, none⟩ = some (r 24) := by obtain ⟨_, _, _, hL⟩ := h.lx; exact (blk_cell hL 24).trans rfl
theorem LA.c25 {w0 w : World} {g : Nat} {s : ByteArray} {r : Nat → Value} {st : Nat} {l : List Int} (h : LA w0 w g s r st l) : w.cell? ⟨g, 25, none⟩ = some (r 25) := by obtain ⟨_, _, _, hL⟩ := h.lx; exact (blk_cell hL 25).trans rfl
theorem LA.c26 {w0 w : World} {g : Nat} {s : ByteArray} {r : Nat → Value} {st : Nat} {l : List Int} (h : LA w0 w g s r st l) : w.cell? ⟨g, 26, none⟩ = some (r 26) := by obtain ⟨_, _, _, hL⟩ := h.lx; exact (blk_cell hL 26).trans rfl
theorem LA.c27 {w0 w : World} {g : Nat} {s : ByteArray} {r : Nat → Value} {st : Nat} {l : List Int} (h : LA w0 w g s r st l) : w.cell? ⟨g, 27, none⟩ = some (r 27) := by obtain ⟨_, _, _, hL⟩ := h.lx; exact (blk_cell hL 27).trans rfl
theorem LA.c28 {w0 w : World} {g : Nat} {s : ByteArray} {r : Nat → Value} {st : Nat} {l : List Int} (h : LA w0 w g s r st l) : w.cell? ⟨g, 28, none⟩ = some (r 28) := by obtain ⟨_, _, _, hL⟩ := h.lx; exact (blk_cell hL 28).trans rfl
theorem LA.c29 {w0 w : World} {g : Nat} {s : ByteArray} {r : Nat → Value} {st : Nat} {l : List Int} (h : LA w0 w g s r st l) : w.cell? ⟨g, 29, none⟩ = some (r 29) := by obtain ⟨_, _, _, hL⟩ := h.lx; exact (blk_cell hL 29).trans rfl
theorem LA.c30 {w0 w : World} {g : Nat} {s : ByteArray} {r : Nat → Value} {st : Nat} {l : List Int} (h : LA w0 w g s r st l) : w.cell? ⟨g, 30, none⟩ = some (r 30) := by obtain ⟨_, _, _, hL⟩ := h.lx; exact (blk_cell hL 30).trans rfl
theorem LA.c31 {w0 w : World} {g : Nat} {s : ByteArray} {r : Nat → Value} {st : Nat} {l : List Int} (h : LA w0 w g s r st l) : w.cell? ⟨g, 31, none⟩ = some (r 31) := by obtain ⟨_, _, _, hL⟩ := h.lx; exact (blk_cell hL 31).trans rfl
theorem LA.c34 {w0 w : World} {g : Nat} {s : ByteArray} {r : Nat → Value} {st : Nat} {l : List Int} (h : LA w0 w g s r st l) : w.cell? ⟨g, 34, none⟩ = some (r 34) := by obtain ⟨_, _, _, hL⟩ := h.lx; exact (blk_cell hL 34).trans rfl
theorem LA.c39 {w0 w : World} {g : Nat} {s : ByteArray} {r : Nat → Value} {st : Nat} {l : List Int} (h : LA w0 w g s r st l) : w.cell? ⟨g, 39, none⟩ = some (r 39) := by obtain ⟨_, _, _, hL⟩ := h.lx; exact (blk_cell hL 39).trans rfl
theorem LA.c40 {w0 w : World} {g : Nat} {s : ByteArray} {r : Nat → Value} {st : Nat} {l : List Int} (h : LA w0 w g s r st l) : w.cell? ⟨g, 40, none⟩ = some (r 40) := by obtain ⟨_, _, _, hL⟩ := h.lx; exact (blk_cell hL 40).trans rfl
theorem LA.up17 {w0 w : World} {g : Nat} {s : ByteArray} {r : Nat → Value} {st : Nat} {l : List Int} (h : LA w0 w g s r st l) (v : Value) : LA w0 (w.setCell ⟨g, 17, none⟩ v) g s (up r 17 v) st l := by
  obtain ⟨nl, n0, n1, hL⟩ := h.lx
  have hb := h.big
  have hK : KeepB g w (w.setCell ⟨g, 17, none⟩ v) := (Keep.refl (fun k => k = g) w).setCell (p := ⟨g, 17, none⟩) (fun _ => rfl) _
  exact ⟨⟨nl, n0, n1, (blk_set hL 17 _).trans rfl⟩, h.sfx, h.kp.trans hK, h.size, tabs_keep h.tabs hK (by omega) (by omega), h.big, h.from_⟩
theorem LA.up18 {w0 w : World} {g : Nat} {s : ByteArray} {r : Nat → Value} {st : Nat} {l : List Int} (h : LA w0 w g s r st l) (v : Value) : LA w0 (w.setCell ⟨g, 18, none⟩ v) g s (up r 18 v) st l := by
  obtain ⟨nl, n0, n1, hL⟩ := h.lx
  have hb := h.big
  have hK : KeepB g w (w.setCell ⟨g, 18, none⟩ v) := (Keep.refl (fun k => k = g) w).setCell (p := ⟨g, 18, none⟩) (fun _ => rfl) _
  exact ⟨⟨nl, n0, n1, (blk_set hL 18 _).trans rfl⟩, h.sfx, h.kp.trans hK, h.size, tabs_keep h.tabs hK (by omega) (by omega), h.big, h.from_⟩
theorem LA.up19 {w0 w : World} {g : Nat} {s : ByteArray} {r : Nat → Value} {st : Nat} {l : List Int} (h : LA w0 w g s r st l) (v : Value) : LA w0 (w.setCell ⟨g, 19, none⟩ v) g s (up r 19 v) st l := by
  obtain ⟨nl, n0, n1, hL⟩ := h.lx
  have hb := h.big
  have hK : KeepB g w (w.setCell ⟨g, 19, none⟩ v) := (Keep.refl (fun k => k = g) w).setCell (p := ⟨g, 19, none⟩) (fun _ => rfl) _
  exact ⟨⟨nl, n0, n1, (blk_set hL 19 _).trans rfl⟩, h.sfx, h.kp.trans hK, h.size, tabs_keep h.tabs hK (by omega) (by omega), h.big, h.from_⟩
theorem LA.up20 {w0 w : World} {g : Nat} {s : ByteArray} {r : Nat → Value} {st : Nat} {l : List Int} (h : LA w0 w g s r st l) (v : Value) : LA w0 (w.setCell ⟨g, 20, none⟩ v) g s (up r 20 v) st l := by
  obtain ⟨nl, n0, n1, hL⟩ := h.lx
  have hb := h.big
  have hK : KeepB g w (w.setCell ⟨g, 20, none⟩ v) := (Keep.refl (fun k => k = g) w).setCell (p := ⟨g, 20, none⟩) (fun _ => rfl) _
  exact ⟨⟨nl, n0, n1, (blk_set hL 20 _).trans rfl⟩, h.sfx, h.kp.trans hK, h.size, tabs_keep h.tabs hK (by omega) (by omega), h.big, h.from_⟩
theorem LA.up21 {w0 w : World} {g : Nat} {s : ByteArray} {r : Nat → Value} {st : Nat} {l : List Int} (h : LA w0 w g s r st l) (v : Value) : LA w0 (w.setCell ⟨g, 21, none⟩ v) g s (up r 21 v) st l := by
  obtain ⟨nl, n0, n1, hL⟩ := h.lx
  have hb := h.big
  have hK : KeepB g w (w.setCell ⟨g, 21, none⟩ v) := (Keep.refl (fun k => k = g) w).setCell (p := ⟨g, 21, none⟩) (fun _ => rfl) _
  exact ⟨⟨nl, n0, n1, (blk_set hL 21 _).trans rfl⟩, h.sfx, h.kp.trans hK, h.size, tabs_keep h.tabs hK (by omega) (by omega), h.big, h.from_⟩
theorem LA.up25 {w0 w : World} {g : Nat} {s : ByteArray} {r : Nat → Value} {st : Nat} {l : List Int} (h : LA w0 w g s r st l) (v : Value) : LA w0 (w.setCell ⟨g, 25, none⟩ v) g s (up r 25 v) st l := by
  obtain ⟨nl, n0, n1, hL⟩ := h.lx
  have hb := h.big
  have hK : KeepB g w (w.setCell ⟨g, 25, none⟩ v) := (Keep.refl (fun k => k = g) w).setCell (p := ⟨g, 25, none⟩) (fun _ => rfl) _
  exact ⟨⟨nl, n0, n1, (blk_set hL 25 _).trans rfl⟩, h.sfx, h.kp.trans hK, h.size, tabs_keep h.tabs hK (by omega) (by omega), h.big, h.from_⟩
theorem LA.up26 {w0 w : World} {g : Nat} {s : ByteArray} {r : Nat → Value} {st : Nat} {l : List Int} (h : LA w0 w g s r st l) (v : Value) : LA w0 (w.setCell ⟨g, 26, none⟩ v) g s (up r 26 v) st l := by
  obtain ⟨nl, n0, n1, hL⟩ := h.lx
  have hb := h.big
  have hK : KeepB g w (w.setCell ⟨g, 26, none⟩ v) := (Keep.refl (fun k => k = g) w).setCell (p := ⟨g, 26, none⟩) (fun _ => rfl) _
  exact ⟨⟨nl, n0, n1, (blk_set hL 26 _).trans rfl⟩, h.sfx, h.kp.trans hK, h.size, tabs_keep h.tabs hK (by omega) (by omega), h.big, h.from_⟩
theorem LA.up27 {w0 w : World} {g : Nat} {s : ByteArray} {r : Nat → Value} {st : Nat} {l : List Int} (h : LA w0 w g s r st l) (v : Value) : LA w0 (w.setCell ⟨g, 27, none⟩ v) g s (up r 27 v) st l := by
  obtain ⟨nl, n0, n1, hL⟩ := h.lx
  have hb := h.big
  have hK : KeepB g w (w.setCell ⟨g, 27, none⟩ v) := (Keep.refl (fun k => k = g) w).setCell (p := ⟨g, 27, none⟩) (fun _ => rfl) _
  exact ⟨⟨nl, n0, n1, (blk_set hL 27 _).trans rfl⟩, h.sfx, h.kp.trans hK, h.size, tabs_keep h.tabs hK (by omega) (by omega), h.big, h.from_⟩
theorem LA.up28 {w0 w : World} {g : Nat} {s : ByteArray} {r : Nat → Value} {st : Nat} {l : List Int} (h : LA w0 w g s r st l) (v : Value) : LA w0 (w.setCell ⟨g, 28, none⟩ v) g s (up r 28 v) st l := by
  obtain ⟨nl, n0, n1, hL⟩ := h.lx
  have hb := h.big
  have hK : KeepB g w (w.setCell ⟨g, 28, none⟩ v) := (Keep.refl (fun k => k = g) w).setCell (p := ⟨g, 28, none⟩) (fun _ => rfl) _
  exact ⟨⟨nl, n0, n1, (blk_set hL 28 _).trans rfl⟩, h.sfx, h.kp.trans hK, h.size, tabs_keep h.tabs hK (by omega) (by omega), h.big, h.from_⟩
theorem LA.up29 {w0 w : World} {g : Nat} {s : ByteArray} {r : Nat → Value} {st : Nat} {l : List Int} (h : LA w0 w g s r st l) (v : Value) : LA w0 (w.setCell ⟨g, 29, none⟩ v) g s (up r 29 v) st l := by
  obtain ⟨nl, n0, n1, hL⟩ := h.lx
  have hb := h.big
  have hK : KeepB g w (w.setCell ⟨g, 29, none⟩ v) := (Keep.refl (fun k => k = g) w).setCell (p := ⟨g, 29, none⟩) (fun _ => rfl) _
  exact ⟨⟨nl, n0, n1, (blk_set hL 29 _).trans rfl⟩, h.sfx, h.kp.trans hK, h.size, tabs_keep h.tabs hK (by omega) (by omega), h.big, h.from_⟩
theorem LA.up30 {w0 w : World} {g : Nat} {s : ByteArray} {r : Nat → Value} {st : Nat} {l : List Int} (h : LA w0 w g s r st l) (v : Value) : LA w0 (w.setCell ⟨g, 30, none⟩ v) g s (up r 30 v) st l := by
  obtain ⟨nl, n0, n1, hL⟩ := h.lx
  have hb := h.big
  have hK : KeepB g w (w.setCell ⟨g, 30, none⟩ v) := (Keep.refl (fun k => k = g) w).setCell (p := ⟨g, 30, none⟩) (fun _ => rfl) _
  exact ⟨⟨nl, n0, n1, (blk_set hL 30 _).trans rfl⟩, h.sfx, h.kp.trans hK, h.size, tabs_keep h.tabs hK (by omega) (by omega), h.big, h.from_⟩
theorem LA.up34 {w0 w : World} {g : Nat} {s : ByteArray} {r : Nat → Value} {st : Nat} {l : List Int} (h : LA w0 w g s r st l) (v : Value) : LA w0 (w.setCell ⟨g, 34, none⟩ v) g s (up r 34 v) st l := by
  obtain ⟨nl, n0, n1, hL⟩ := h.lx
  have hb := h.big
  have hK : KeepB g w (w.setCell ⟨g, 34, none⟩ v) := (Keep.refl (fun k => k = g) w).setCell (p := ⟨g, 34, none⟩) (fun _ => rfl) _
  exact ⟨⟨nl, n0, n1, (blk_set hL 34 _).trans rfl⟩, h.sfx, h.kp.trans hK, h.size, tabs_keep h.tabs hK (by omega) (by omega), h.big, h.from_⟩
theorem LA.up39 {w0 w : World} {g : Nat} {s : ByteArray} {r : Nat → Value} {st : Nat} {l : List Int} (h : LA w0 w g s r st l) (v : Value) : LA w0 (w.setCell ⟨g, 39, none⟩ v) g s (up r 39 v) st l := by
  obtain ⟨nl, n0, n1, hL⟩ := h.lx
  have hb := h.big
  have hK : KeepB g w (w.setCell ⟨g, 39, none⟩ v) := (Keep.refl (fun k => k = g) w).setCell (p := ⟨g, 39, none⟩) (fun _ => rfl) _
  exact ⟨⟨nl, n0, n1, (blk_set hL 39 _).trans rfl⟩, h.sfx, h.kp.trans hK, h.size, tabs_keep h.tabs hK (by omega) (by omega), h.big, h.from_⟩
theorem LA.up40 {w0 w : World} {g : Nat} {s : ByteArray} {r : Nat → Value} {st : Nat} {l : List Int} (h : LA w0 w g s r st l) (v : Value) : LA w0 (w.setCell ⟨g, 40, none⟩ v) g s (up r 40 v) st l := by
  obtain ⟨nl, n0, n1, hL⟩ := h.lx
  have hb := h.big
  have hK : KeepB g w (w.setCell ⟨g, 40, none⟩ v) := (Keep.refl (fun k => k = g) w).setCell (p := ⟨g, 40, none⟩) (fun _ => rfl) _
  exact ⟨⟨nl, n0, n1, (blk_set hL 40 _).trans rfl⟩, h.sfx, h.kp.trans hK, h.size, tabs_keep h.tabs hK (by omega) (by omega), h.big, h.from_⟩
/-- Two readings that differ within a stretch of cells alone. -/
def Out (a b : Nat) (r r' : Nat → Value) : Prop := ∀ j, j < a ∨ b < j → r' j = r j
theorem Out.refl (a b : Nat) (r : Nat → Value) : Out a b r r := fun _ _ => rfl
theorem Out.up {a b : Nat} {r r' : Nat → Value} (h : Out a b r r') {k : Nat} (h1 : a ≤ k) (h2 : k ≤ b) (v : Value) : Out a b r (up r' k v) := fun j hj => by
  unfold YtedckphklebndaaGreatDoor.up
  rw [if_neg (by omega)]
  exact h j hj
theorem Out.trans {a b : Nat} {r r' r'' : Nat → Value} (h : Out a b r r') (k : Out a b r' r'') : Out a b r r'' := fun j hj => (k j hj).trans (h j hj)
theorem up_same (r : Nat → Value) (k : Nat) (v : Value) : up r k v k = v := by simp [up]
theorem up_other {r : Nat → Value} {k j : Nat} {v : Value} (h : j ≠ k) : up r k v j = r j := by simp [up, h]
end Go.Proofs.YtedckphklebndaaGreatDoor
/- The logger's tracker of lines, in the lexer in memory: its invariant; scanTo walked. Conditions: those of the lexer in memory (LA). -/
namespace Go.Proofs.YtedckphklebndaaGreatDoor
open Go Go.RowKit
/-- What ends a line for the tracker. -/
def isLn (c : Int) : Bool := c == 10 || c == 13 || c == 8232 || c == 8233
def lineE (l : List Int) : List Int := l.dropWhile (fun c => !isLn c)
theorem lineE_suf (l : List Int) : lineE l <:+ l := List.dropWhile_suffix _
theorem lineE_go {l : List Int} (h : l ≠ []) (hc : isLn (hd l) = false) : lineE l = lineE l.tail := by
  cases l with
  | nil => exact absurd rfl h
  | cons c t =>
    unfold lineE
    rw [List.dropWhile_cons_of_pos (by simpa using hc)]; rfl
theorem lineE_stop {l : List Int} (hc : isLn (hd l) = true) : lineE l = l := by
  cases l with
  | nil => simp [isLn] at hc
  | cons c t => unfold lineE; rw [List.dropWhile_cons_of_neg (by simpa using hc)]
/-- The tracker's cells but its place: it has read up to 'lt'. -/
structure TM (s : ByteArray) (r : Nat → Value) (lt : List Int) : Prop where
  sfx : Sfx s lt
  c22 : r 22 = .string s
  c23 : ∃ e, r 23 = .string e
  c24 : ∃ e, r 24 = .string e
  c26 : ∃ n : Nat, n ≤ ps s lt ∧ r 26 = .int .i32 n
  c27 : ∃ n : Nat, n ≤ ps s lt ∧ r 27 = .int .i32 n
  c28 : ∃ n : Int, ∃ b : Bool, r 28 = .int .i32 n ∧ r 30 = .bool b ∧ (b = true → n = ps s (lineE lt))
  c29 : r 29 = .bool true
  c31 : r 31 = .bool true
/-- The tracker. -/
structure TR (s : ByteArray) (r : Nat → Value) (lt : List Int) : Prop where
  tm : TM s r lt
  c25 : r 25 = .int .i32 (ps s lt)
theorem TM.out {s : ByteArray} {r r' : Nat → Value} {lt : List Int} (h : TM s r lt) (k : ∀ j, 22 ≤ j → j ≤ 31 → j ≠ 25 → r' j = r j) : TM s r' lt := by
  obtain ⟨a, b, c, d, e, f, ⟨n, q, h1, h2, h3⟩, i, j⟩ := h
  exact ⟨a, by rw [k 22 (by omega) (by omega) (by omega)]; exact b, by rw [k 23 (by omega) (by omega) (by omega)]; exact c, by rw [k 24 (by omega) (by omega) (by omega)]; exact d,
    by rw [k 26 (by omega) (by omega) (by omega)]; exact e, by rw [k 27 (by omega) (by omega) (by omega)]; exact f,
    ⟨n, q, by rw [k 28 (by omega) (by omega) (by omega)]; exact h1, by rw [k 30 (by omega) (by omega) (by omega)]; exact h2, h3⟩,
    by rw [k 29 (by omega) (by omega) (by omega)]; exact i, by rw [k 31 (by omega) (by omega) (by omega)]; exact j⟩
theorem TR.out {s : ByteArray} {r r' : Nat → Value} {lt : List Int} (h : TR s r lt) (k : ∀ j, 22 ≤ j → j ≤ 31 → r' j = r j) : TR s r' lt :=
  ⟨h.tm.out (fun j h1 h2 _ => k j h1 h2), by rw [k 25 (by omega) (by omega)]; exact h.c25⟩
theorem TM.go {s : ByteArray} {r : Nat → Value} {lt : List Int} (h : TM s r lt) (hn : lt ≠ []) (hc : isLn (hd lt) = false) : TM s r lt.tail := by
  have hp := ps_step h.sfx
  have hw := wdl_pos hn
  obtain ⟨n, b, e1, e2, e3⟩ := h.c28
  obtain ⟨n1, k1, q1⟩ := h.c26
  obtain ⟨n2, k2, q2⟩ := h.c27
  exact ⟨h.sfx.tl, h.c22, h.c23, h.c24, ⟨n1, by omega, q1⟩, ⟨n2, by omega, q2⟩, ⟨n, b, e1, e2, fun q => by rw [e3 q, lineE_go hn hc]⟩, h.c29, h.c31⟩
/-- Behind the end of a line. -/
theorem TM.line {s : ByteArray} {r : Nat → Value} {lt : List Int} (h : TM s r lt) {v : Value} (hv : ∃ n : Nat, n ≤ ps s lt.tail ∧ v = .int .i32 n) :
    TM s (up (up (up (up r 29 (.bool true)) 30 (.bool false)) 27 (.int .i32 (ps s lt.tail))) 26 v) lt.tail := by
  obtain ⟨n, b, e1, e2, e3⟩ := h.c28
  exact ⟨h.sfx.tl, h.c22, h.c23, h.c24, hv, ⟨_, Nat.le_refl _, rfl⟩, ⟨n, false, e1, rfl, fun q => by cases q⟩, rfl, h.c31⟩
/-- scanTo's loop. -/
def SK (w0 : World) (g : Nat) (s : ByteArray) (r : Nat → Value) (st : Nat) (l lo : List Int) (k : Nat) (a : Value) (w : World) : Prop :=
  ∃ li r', li.length = k ∧ lo <:+ li ∧ lo ≠ li ∧ a = .int .i32 (ps s li) ∧ LA w0 w g s r' st l ∧ Out 25 30 r r' ∧ TM s r' li ∧ r' 25 = r 25
/-- What scanTo leaves. -/
def SP (w0 : World) (g : Nat) (s : ByteArray) (r : Nat → Value) (st : Nat) (l lo : List Int) (e : Ending) (w' : World) : Prop :=
  e = .returned (.tuple #[]) ∧ ∃ r', LA w0 w' g s r' st l ∧ Out 25 30 r r' ∧ TR s r' lo
theorem suf_eq {a b : List Int} (h : a <:+ b) (e : a.length = b.length) : a = b := by
  obtain ⟨p, rfl⟩ := h
  have : p = [] := by
    rw [List.length_append] at e
    exact List.eq_nil_of_length_eq_zero (by omega)
  rw [this]; rfl
theorem suf_tail {a b : List Int} (h : a <:+ b) (hn : a ≠ b) : a <:+ b.tail ∧ b ≠ [] ∧ b.tail.length < b.length := by
  obtain ⟨p, rfl⟩ := h
  cases p with
  | nil => exact absurd rfl hn
  | cons c p => exact ⟨⟨p, rfl⟩, by simp, by simp⟩
theorem TM.ends {s : ByteArray} {r : Nat → Value} {lt : List Int} (h : TM s r lt) {v : Value} (hv : v = .int .i32 (ps s lt)) : TR s (up r 25 v) lt :=
  ⟨h.out (fun _ _ _ e => up_other e), by rw [up_same, hv]⟩
/-- Behind the end of a line that does not count. -/
theorem TM.line0 {s : ByteArray} {r : Nat → Value} {lt : List Int} (h : TM s r lt) : TM s (up (up (up r 29 (.bool true)) 30 (.bool false)) 27 (.int .i32 (ps s lt.tail))) lt.tail := by
  obtain ⟨n1, k1, q1⟩ := h.c26
  obtain ⟨n, b, e1, e2, e3⟩ := h.c28
  have hp := ps_step h.sfx
  exact ⟨h.sfx.tl, h.c22, h.c23, h.c24, ⟨n1, by omega, q1⟩, ⟨_, Nat.le_refl _, rfl⟩, ⟨n, false, e1, rfl, fun q => by cases q⟩, rfl, h.c31⟩
section
variable {w0 w1 : World} {g : Nat} {s : ByteArray} {r r1 : Nat → Value} {st : Nat} {l lo li : List Int}
theorem Out4 (hO : Out 25 30 r r1) (a b c d : Value) : Out 25 30 r (up (up (up (up r1 29 a) 30 b) 27 c) 26 d) := (((hO.up (by omega) (by omega) _).up (by omega) (by omega) _).up (by omega) (by omega) _).up (by omega) (by omega) _
theorem Out3 (hO : Out 25 30 r r1) (a b c : Value) : Out 25 30 r (up (up (up r1 29 a) 30 b) 27 c) := ((hO.up (by omega) (by omega) _).up (by omega) (by omega) _).up (by omega) (by omega) _
theorem SP.lineI (hA : LA w0 w1 g s r1 st l) (hO : Out 25 30 r r1) (hM : TM s r1 li) {n : Int} {m : Nat} (hm : m + 1 ≤ ps s li.tail) {p : Int} (hp : p = (ps s li.tail : Nat)) (hn : n = (m : Int) + 1) (he : lo = li.tail) :
    SP w0 g s r st l lo (.returned (.tuple #[])) (((((w1.setCell ⟨g, 29, none⟩ (.bool true)).setCell ⟨g, 30, none⟩ (.bool false)).setCell ⟨g, 27, none⟩ (.int .i32 p)).setCell ⟨g, 26, none⟩ (.int .i32 n)).setCell ⟨g, 25, none⟩ (.int .i32 p)) := by
  subst hp he hn
  exact ⟨rfl, _, ((((hA.up29 _).up30 _).up27 _).up26 _).up25 _, (Out4 hO _ _ _ _).up (by omega) (by omega) _, (hM.line ⟨m + 1, hm, by simp⟩).ends rfl⟩
theorem SP.line0 (hA : LA w0 w1 g s r1 st l) (hO : Out 25 30 r r1) (hM : TM s r1 li) {p : Int} (hp : p = (ps s li.tail : Nat)) (he : lo = li.tail) :
    SP w0 g s r st l lo (.returned (.tuple #[])) ((((w1.setCell ⟨g, 29, none⟩ (.bool true)).setCell ⟨g, 30, none⟩ (.bool false)).setCell ⟨g, 27, none⟩ (.int .i32 p)).setCell ⟨g, 25, none⟩ (.int .i32 p)) := by
  subst hp he
  exact ⟨rfl, _, (((hA.up29 _).up30 _).up27 _).up25 _, (Out3 hO _ _ _).up (by omega) (by omega) _, hM.line0.ends rfl⟩
theorem SP.go (hA : LA w0 w1 g s r1 st l) (hO : Out 25 30 r r1) (hM : TM s r1 li) (hn : li ≠ []) (hc : isLn (hd li) = false) {p : Int} (hp : p = (ps s li.tail : Nat)) (he : lo = li.tail) :
    SP w0 g s r st l lo (.returned (.tuple #[])) (w1.setCell ⟨g, 25, none⟩ (.int .i32 p)) := by
  subst hp he
  exact ⟨rfl, _, hA.up25 _, hO.up (by omega) (by omega) _, (hM.go hn hc).ends rfl⟩
theorem SK.lineI (hA : LA w0 w1 g s r1 st l) (hO : Out 25 30 r r1) (hM : TM s r1 li) {n : Int} {m : Nat} (hm : m + 1 ≤ ps s li.tail) {p p' : Int} (hp : p = (ps s li.tail : Nat)) (hp' : p' = (ps s li.tail : Nat)) (hn : n = (m : Int) + 1) (hs : lo <:+ li.tail) (he : lo ≠ li.tail) (h25 : r1 25 = r 25) :
    SK w0 g s r st l lo li.tail.length (.int .i32 p') ((((w1.setCell ⟨g, 29, none⟩ (.bool true)).setCell ⟨g, 30, none⟩ (.bool false)).setCell ⟨g, 27, none⟩ (.int .i32 p)).setCell ⟨g, 26, none⟩ (.int .i32 n)) := by
  subst hp hp' hn
  exact ⟨_, _, rfl, hs, he, rfl, (((hA.up29 _).up30 _).up27 _).up26 _, Out4 hO _ _ _ _, hM.line ⟨m + 1, hm, by simp⟩, h25⟩
theorem SK.line0 (hA : LA w0 w1 g s r1 st l) (hO : Out 25 30 r r1) (hM : TM s r1 li) {p p' : Int} (hp : p = (ps s li.tail : Nat)) (hp' : p' = (ps s li.tail : Nat)) (hs : lo <:+ li.tail) (he : lo ≠ li.tail) (h25 : r1 25 = r 25) :
    SK w0 g s r st l lo li.tail.length (.int .i32 p') (((w1.setCell ⟨g, 29, none⟩ (.bool true)).setCell ⟨g, 30, none⟩ (.bool false)).setCell ⟨g, 27, none⟩ (.int .i32 p)) := by
  subst hp hp'
  exact ⟨_, _, rfl, hs, he, rfl, ((hA.up29 _).up30 _).up27 _, Out3 hO _ _ _, hM.line0, h25⟩
theorem SK.go (hA : LA w0 w1 g s r1 st l) (hO : Out 25 30 r r1) (hM : TM s r1 li) (hn : li ≠ []) (hc : isLn (hd li) = false) {p' : Int} (hp' : p' = (ps s li.tail : Nat)) (hs : lo <:+ li.tail) (he : lo ≠ li.tail) (h25 : r1 25 = r 25) :
    SK w0 g s r st l lo li.tail.length (.int .i32 p') w1 := by
  subst hp'
  exact ⟨_, _, rfl, hs, he, rfl, hA, hO, hM.go hn hc, h25⟩
end
set_option maxRecDepth 100000 in
set_option maxHeartbeats 4000000 in
theorem scanTo_la {w0 w : World} {g : Nat} {s : ByteArray} {r : Nat → Value} {st : Nat} {l lt lo : List Int} (h : LA w0 w g s r st l) (hT : TR s r lt) (hs : lo <:+ lt) :
    Calls Tryz.prog 132 #[.pointer (some ⟨g, 22, none⟩), .int .i32 (ps s lo)] w (SP w0 g s r st l lo) := by
  have c22 := h.c22
  rw [hT.tm.c22] at c22
  have c25 := h.c25
  rw [hT.c25] at c25
  have hsz := h.size
  have hSo := hT.tm.sfx.suf hs
  have b1 := ps_le s lt
  have b2 := ps_le s lo
  by_cases he : lo = lt
  · have HE := Lib.hid he
    have hz : ps s lo = ps s lt := by rw [he]
    rw [hz]
    clear he hz b2
    go_enter Tryz.func132, Tryz.ntmps132
    go_wp2_with fail
    go_end0
    exact ⟨rfl, r, h, Out.refl _ _ _, by rw [HE.out]; exact hT⟩
  · have hlt : ps s lt < ps s lo := by
      have h1 := ps_suf hT.tm.sfx hs
      have h2 := suf_tail hs he
      have h3 := h2.1.length_le
      omega
    have HE := Lib.hid he
    clear he
    go_enter Tryz.func132, Tryz.ntmps132
    go_wp2_with fail
    go_loopg [5] lt.length (fun k a wr => SK w0 g s r st l lo k a wr)
    case atStart => exact ⟨lt, r, rfl, hs, HE.out, rfl, h, Out.refl _ _ _, hT.tm, rfl⟩
    case round =>
      obtain ⟨li, r1, hk, hsl, hne, ha, hA, hO, hM, h25⟩ := hrel
      subst ha
      have HK := Lib.hid hk
      have HSL := Lib.hid hsl
      have H25 := Lib.hid h25
      obtain ⟨q1, q2, q3⟩ := suf_tail hsl hne
      have HQ := Lib.hid q1
      have HN := Lib.hid q2
      have HL := Lib.hid q3
      have b5 := ps_step hM.sfx
      have b6 := ps_le s li.tail
      have b7 : ps s lo ≤ s.size := b2
      have b8 : ps s li.tail ≤ ps s lo := by have := ps_suf hM.sfx.tl q1; omega
      have b9 := wdl_le li
      have b10 := wdl_pos q2
      have hrn := rn_cons q2
      have B5 := Lib.hid b5
      have b11 : ps s li + wdl li ≤ 1073741824 := by omega
      have b12 : ps s li ≤ s.size := by omega
      have hdec := dec_sfx hM.sfx wr hA.tabs
      rw [hrn] at hdec
      clear hk hsl hne h25 q1 q2 q3 b5 b6 b8 hrn c22 c25 h hT hSo hs
      have K : ∀ w1, Below wr.heap.size wr w1 → LA w0 w1 g s r1 st l := fun w1 hbel => hA.keepA (Keep.of_below hbel _)
      obtain ⟨n26, m26, q26⟩ := hM.c26
      have b26 : (n26 : Int) ≤ 1073741824 := by omega
      have HM26 : Hid (n26 + 1 ≤ ps s li.tail) := Lib.hid (by have := B5.out; omega)
      have HM := Lib.hid hM
      have HQ26 := Lib.hid q26
      have HLE : Hid (ps s lo ≤ ps s li.tail → lo = li.tail) := Lib.hid (fun e => by
        have h1 := ps_suf HM.out.sfx.tl HQ.out
        have h2 := HQ.out.length_le
        exact suf_eq HQ.out (by omega))
      have HP : Hid (∀ v : Int, v = (ps s li : Int) + wdl li → v = (ps s li.tail : Nat)) := Lib.hid (fun v e => by have := B5.out; omega)
      have HGT : Hid (ps s li + wdl li < ps s lo → lo ≠ li.tail) := Lib.hid (fun e q => by rw [q] at e; have := B5.out; omega)
      have HGE : Hid (ps s lo ≤ ps s li + wdl li → lo = li.tail) := Lib.hid (fun e => HLE.out (by have := B5.out; omega))
      clear hM q26 m26
      by_cases h10 : hd li = 10
      · have k1 : (hd li == 10) = true := by simp [h10]
        clear h10
        go_wp2_with fail
        refine hdec.mono ?_
        rintro e w1 ⟨rfl, hbel⟩
        have hA1 := K w1 hbel
        have c29 := hA1.c29
        have c30 := hA1.c30
        have c27 := hA1.c27
        have c26 := hA1.c26
        have c25 := hA1.c25
        have f29 := hA1.frozen 29
        have f30 := hA1.frozen 30
        have f27 := hA1.frozen 27
        have f26 := hA1.frozen 26
        have f25 := hA1.frozen 25
        rw [HQ26.out] at c26
        go_wp2_with fail
        all_goals first
          | (go_end0; first | ((with_reducible refine SP.lineI hA1 hO HM.out HM26.out ?_ ?_ ?_); (exact HP.out _ (by omega)); (rfl); (exact HGE.out (by omega))) | ((with_reducible refine SP.line0 hA1 hO HM.out ?_ ?_); (exact HP.out _ (by omega)); (exact HGE.out (by omega))))
          | (go_roundg li.tail.length
             case measure => have := HL.out; have := HK.out; omega
             case rel => first | ((with_reducible refine SK.lineI hA1 hO HM.out HM26.out ?_ ?_ ?_ HQ.out ?_ H25.out); (exact HP.out _ (by omega)); (exact HP.out _ (by omega)); (rfl); (exact HGT.out (by omega))) | ((with_reducible refine SK.line0 hA1 hO HM.out ?_ ?_ HQ.out ?_ H25.out); (exact HP.out _ (by omega)); (exact HP.out _ (by omega)); (exact HGT.out (by omega))))
      · have k1 : (hd li == 10) = false := by simp [h10]
        by_cases hl : isLn (hd li) = true
        · have hk : (hd li == 13) = true ∨ ((hd li == 13) = false ∧ (hd li == 8232) = true) ∨ ((hd li == 13) = false ∧ (hd li == 8232) = false ∧ (hd li == 8233) = true) := by
            unfold isLn at hl
            rw [k1, Bool.false_or] at hl
            cases q1 : (hd li == 13) with
            | true => exact .inl rfl
            | false =>
              cases q2 : (hd li == 8232) with
              | true => exact .inr (.inl ⟨rfl, rfl⟩)
              | false => rw [q1, q2] at hl; exact .inr (.inr ⟨rfl, rfl, by simpa using hl⟩)
          clear h10 hl
          rcases hk with k2 | ⟨k2, k3⟩ | ⟨k2, k3, k4⟩
          all_goals
            go_wp2_with fail
            refine hdec.mono ?_
            rintro e w1 ⟨rfl, hbel⟩
            have hA1 := K w1 hbel
            have c29 := hA1.c29
            have c30 := hA1.c30
            have c27 := hA1.c27
            have c26 := hA1.c26
            have c25 := hA1.c25
            have f29 := hA1.frozen 29
            have f30 := hA1.frozen 30
            have f27 := hA1.frozen 27
            have f26 := hA1.frozen 26
            have f25 := hA1.frozen 25
            rw [HQ26.out] at c26
            go_wp2_with fail
            all_goals first
              | (go_end0; (with_reducible refine SP.lineI hA1 hO HM.out HM26.out ?_ ?_ ?_); (exact HP.out _ (by omega)); (rfl); (exact HGE.out (by omega)))
              | (go_roundg li.tail.length
                 case measure => have := HL.out; have := HK.out; omega
                 case rel => ((with_reducible refine SK.lineI hA1 hO HM.out HM26.out ?_ ?_ ?_ HQ.out ?_ H25.out); (exact HP.out _ (by omega)); (exact HP.out _ (by omega)); (rfl); (exact HGT.out (by omega))))
        · have hl' : isLn (hd li) = false := by simpa using hl
          have HX := Lib.hid hl'
          have k2 : (hd li == 13) = false ∧ (hd li == 8232) = false ∧ (hd li == 8233) = false := by
            unfold isLn at hl'
            simp only [Bool.or_eq_false_iff] at hl'
            exact ⟨hl'.1.1.2, hl'.1.2, hl'.2⟩
          obtain ⟨k2, k3, k4⟩ := k2
          clear h10 hl hl'
          go_wp2_with fail
          refine hdec.mono ?_
          rintro e w1 ⟨rfl, hbel⟩
          have hA1 := K w1 hbel
          have c25 := hA1.c25
          have f25 := hA1.frozen 25
          go_wp2_with fail
          all_goals first
            | (go_end0; (with_reducible refine SP.go hA1 hO HM.out HN.out HX.out ?_ ?_); (exact HP.out _ (by omega)); (exact HGE.out (by omega)))
            | (go_roundg li.tail.length
               case measure => have := HL.out; have := HK.out; omega
               case rel => ((with_reducible refine SK.go hA1 hO HM.out HN.out HX.out ?_ HQ.out ?_ H25.out); (exact HP.out _ (by omega)); (exact HGT.out (by omega))))
end Go.Proofs.YtedckphklebndaaGreatDoor
