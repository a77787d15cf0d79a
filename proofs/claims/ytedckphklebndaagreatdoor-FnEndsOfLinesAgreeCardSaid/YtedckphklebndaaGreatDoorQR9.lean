/- The package's consumeURL, walked. Conditions: those of the lexer in memory with its log (LQ); nothing is left open. -/
import Derived.Test.YtedckphklebndaaGreatDoorQR8
import Derived.Deep.CutBlock
namespace Go.Proofs.YtedckphklebndaaGreatDoor
open Go Go.RowKit
/-- consumeURL's first loop. -/
def UK (S : Nat → Prop) (B : Nat) (k : LK) (w0 : World) (g : Nat) (s : ByteArray) (r : Nat → Value) (st : Nat) (K : Int) (R lm lt : List Int) (q H : Nat) (n : Nat) (w : World) : Prop :=
  ∃ li out, li.length = n ∧ (urlF out li).1.kind = K ∧ (urlF out li).2.1 = R ∧ (urlF out li).2.2 = false ∧ li <:+ lm ∧ LQ S B k w0 w g s r st li lt q ∧ w.heap[H]? = some (.cells #[.int .i32 (ps s lm)] 48 (0, 0))
/-- Behind it, at what is left of a bad address. -/
def BKr (S : Nat → Prop) (B : Nat) (k : LK) (w0 : World) (g : Nat) (s : ByteArray) (r : Nat → Value) (st : Nat) (K : Int) (R : List Int) (q : Nat) (w : World) : Prop :=
  ∃ lb lt' r', badF lb = (R, false) ∧ K = 3 ∧ LQ S B k w0 w g s r' st lb lt' (q + 1) ∧ Out 25 30 r r' ∧ lb <:+ lt'
theorem isSp_cases {c : Int} (h : isSp c = true) : (c == 32) = true ∨ ((c == 32) = false ∧ (c == 9) = true) ∨ ((c == 32) = false ∧ (c == 9) = false ∧ (c == 10) = true) ∨ ((c == 32) = false ∧ (c == 9) = false ∧ (c == 10) = false ∧ (c == 13) = true) ∨ ((c == 32) = false ∧ (c == 9) = false ∧ (c == 10) = false ∧ (c == 13) = false ∧ (c == 12) = true) := by
  unfold isSp isNL at h
  cases q1 : (c == 32) with
  | true => exact .inl rfl
  | false =>
    cases q2 : (c == 9) with
    | true => exact .inr (.inl ⟨rfl, rfl⟩)
    | false =>
      cases q3 : (c == 10) with
      | true => exact .inr (.inr (.inl ⟨rfl, rfl, rfl⟩))
      | false =>
        cases q4 : (c == 13) with
        | true => exact .inr (.inr (.inr (.inl ⟨rfl, rfl, rfl, rfl⟩)))
        | false => rw [q1, q2, q3, q4] at h; exact .inr (.inr (.inr (.inr ⟨rfl, rfl, rfl, rfl, by simpa using h⟩)))
theorem isSp_false {c : Int} (h : isSp c = false) : (c == 32) = false ∧ (c == 9) = false ∧ (c == 10) = false ∧ (c == 13) = false ∧ (c == 12) = false := by
  unfold isSp isNL at h
  simp only [Bool.or_eq_false_iff] at h
  exact ⟨h.2, h.1.2, h.1.1.1.1, h.1.1.1.2, h.1.1.2⟩
/-- consumeURL's loop over whitespace. -/
def SU (S : Nat → Prop) (B : Nat) (k : LK) (w0 : World) (g : Nat) (s : ByteArray) (r : Nat → Value) (st : Nat) (li lt : List Int) (q H : Nat) (lm : List Int) (n : Nat) (w : World) : Prop :=
  ∃ lj, lj.length = n ∧ spaceF lj = spaceF li.tail ∧ lj <:+ li.tail ∧ LQ S B k w0 w g s r st lj lt q ∧ w.heap[H]? = some (.cells #[.int .i32 (ps s lm)] 48 (0, 0))
/-- consumeURL's last loop. -/
def VK (S : Nat → Prop) (B : Nat) (k : LK) (w0 : World) (g : Nat) (s : ByteArray) (r : Nat → Value) (st : Nat) (R lt : List Int) (q : Nat) (n : Nat) (w : World) : Prop :=
  ∃ li, li.length = n ∧ badF li = (R, false) ∧ li <:+ lt ∧ LQ S B k w0 w g s r st li lt (q + 1)
theorem ne_eof {l : List Int} (h : RnAll l) (hn : l ≠ []) : (hd l == -1) = false := by
  cases l with
  | nil => exact absurd rfl hn
  | cons c t =>
    have := h.head.1
    simp only [hd_cons, beq_eq_false_iff_ne]; omega
theorem badF_at41 {l R : List Int} (hn : l ≠ []) (h : hd l = 41) (hb : badF l = (R, false)) : R = l.tail := by
  cases l with
  | nil => exact absurd rfl hn
  | cons c t =>
    rw [badF, if_pos (by simpa using h)] at hb
    simp only [Prod.mk.injEq, and_true] at hb
    exact hb.symm
theorem badF_on {l R : List Int} (hn : l ≠ []) (h : hd l ≠ 41) (hb : badF l = (R, false)) : escs (hd l) (pk l 1) = false ∧ badF l.tail = (R, false) := by
  cases l with
  | nil => exact absurd rfl hn
  | cons c t =>
    simp only [hd_cons] at h
    rw [badF, if_neg h] at hb
    by_cases he : escs c (hd t) = true
    · rw [if_pos he] at hb; simp at hb
    · rw [if_neg he] at hb
      exact ⟨by simpa using he, hb⟩
theorem urlF_at41 {l : List Int} (hn : l ≠ []) (h : hd l = 41) (out : List UInt8) : urlF out l = ({ kind := 37, text := out }, l.tail, false) := by
  cases l with
  | nil => exact absurd rfl hn
  | cons c t => rw [urlF, if_pos (by simpa using h)]; rfl
theorem urlF_blank {l : List Int} (hn : l ≠ []) (h2 : isSp (hd l) = true) {out : List UInt8} (ho : (urlF out l).2.2 = false) :
    spaceF l.tail ≠ [] ∧ (hd (spaceF l.tail) = 41 → (urlF out l).1.kind = 37 ∧ (urlF out l).2.1 = (spaceF l.tail).tail) ∧ (hd (spaceF l.tail) ≠ 41 → (urlF out l).1.kind = 3 ∧ badF (spaceF l.tail) = ((urlF out l).2.1, false)) := by
  cases l with
  | nil => exact absurd rfl hn
  | cons c t =>
    simp only [hd_cons] at h2
    have h41 : c ≠ 41 := by rintro rfl; simp [isSp, isNL] at h2
    rw [urlF, if_neg h41, if_pos h2] at ho
    rw [List.tail_cons]
    have e0 : urlF out (c :: t) = if spaceF t = [] then ({ kind := 37, text := out }, [], true) else if hd (spaceF t) = 41 then ({ kind := 37, text := out }, (spaceF t).tail, false) else ({ kind := 3 }, (badF (spaceF t)).1, (badF (spaceF t)).2) := by rw [urlF, if_neg h41, if_pos h2]
    by_cases h3 : spaceF t = []
    · rw [if_pos h3] at ho; cases ho
    · rw [if_neg h3] at ho e0
      refine ⟨h3, fun e => ?_, fun e => ?_⟩
      · rw [if_pos e] at e0; rw [e0]; exact ⟨rfl, rfl⟩
      · rw [if_neg e] at e0 ho; rw [e0]; exact ⟨rfl, Prod.ext rfl ho⟩
theorem urlF_brk {l : List Int} (hn : l ≠ []) (h1 : hd l ≠ 41) (h2 : isSp (hd l) = false) (h3 : hd l = 34 ∨ hd l = 39 ∨ hd l = 40 ∨ unpr (hd l) = true ∨ (hd l = 92 ∧ isNL (hd l.tail) = true)) {out : List UInt8} (ho : (urlF out l).2.2 = false) :
    (urlF out l).1.kind = 3 ∧ badF l = ((urlF out l).2.1, false) := by
  cases l with
  | nil => exact absurd rfl hn
  | cons c t =>
    simp only [hd_cons, List.tail_cons] at h1 h2 h3
    have e0 : urlF out (c :: t) = ({ kind := 3 }, (badF (c :: t)).1, (badF (c :: t)).2) := by rw [urlF, if_neg h1, if_neg (by rw [h2]; decide), if_pos h3]
    rw [e0] at ho ⊢
    exact ⟨rfl, Prod.ext rfl ho⟩
theorem urlF_bs {l : List Int} (h92 : hd l = 92) (h4 : isNL (hd l.tail) = false) {out : List UInt8} (ho : (urlF out l).2.2 = false) :
    (escF l.tail).2.2 = false ∧ (urlF out l).1 = (urlF (out ++ enc (escF l.tail).1) (escF l.tail).2.1).1 ∧ (urlF out l).2.1 = (urlF (out ++ enc (escF l.tail).1) (escF l.tail).2.1).2.1 ∧ (urlF (out ++ enc (escF l.tail).1) (escF l.tail).2.1).2.2 = false := by
  cases l with
  | nil => simp at h92
  | cons c t =>
    simp only [hd_cons, List.tail_cons] at h92 h4 ⊢
    subst h92
    have h3 : ¬ ((92 : Int) = 34 ∨ (92 : Int) = 39 ∨ (92 : Int) = 40 ∨ unpr 92 = true ∨ ((92 : Int) = 92 ∧ isNL (hd t) = true)) := by
      rw [h4]; simp [unpr]
    have e0 : urlF out (92 :: t) = ((urlF (out ++ enc (escF t).1) (escF t).2.1).1, (urlF (out ++ enc (escF t).1) (escF t).2.1).2.1, (escF t).2.2 || (urlF (out ++ enc (escF t).1) (escF t).2.1).2.2) := by
      rw [urlF, if_neg (by decide), if_neg (by decide), if_neg h3, if_pos rfl]
    rw [e0] at ho ⊢
    simp only [Bool.or_eq_false_iff] at ho
    exact ⟨ho.1, rfl, rfl, ho.2⟩
theorem urlF_on {l : List Int} (hn : l ≠ []) (h1 : hd l ≠ 41) (h2 : isSp (hd l) = false) (h3 : hd l ≠ 34 ∧ hd l ≠ 39 ∧ hd l ≠ 40 ∧ unpr (hd l) = false ∧ hd l ≠ 92) (out : List UInt8) : urlF out l = urlF (out ++ enc (hd l)) l.tail := by
  cases l with
  | nil => exact absurd rfl hn
  | cons c t =>
    simp only [hd_cons, List.tail_cons] at h1 h2 h3 ⊢
    obtain ⟨a, b, c', d, e⟩ := h3
    rw [urlF, if_neg h1, if_neg (by rw [h2]; decide), if_neg (by rintro (x | x | x | x | x); exact a x; exact b x; exact c' x; (rw [d] at x; cases x); exact e x.1), if_neg e]
theorem unpr0_hd {l : List Int} (h : RnAll l) (hn : l ≠ []) : unpr0 (hd l) = unpr (hd l) := by
  cases l with
  | nil => exact absurd rfl hn
  | cons c t =>
    have := h.head.1
    rw [hd_cons, unpr0, unpr, show decide (0 ≤ c) = true from decide_eq_true (by omega), Bool.true_and]
theorem MsgData_lq {S : Nat → Prop} {B : Nat} {k : LK} {w0 w : World} {g : Nat} {s : ByteArray} {r : Nat → Value} {st : Nat} {l lt lo : List Int} {q : Nat} (h : LQ S B k w0 w g s r st l lt q) (hs : lo <:+ lt) {a b : Int} (ha : a = ps s lo) (hb : -2147483648 ≤ b ∧ b ≤ 2147483647) (t : ByteArray) :
    Calls Tryz.prog 107 #[.pointer (some ⟨g, 22, none⟩), .agg #[.int .i32 a, .int .i32 b], .string t] w fun e w' => ∃ a1 r1, e = .returned (.agg #[.nilIface, .pointer (some a1), .string t, .bool false]) ∧ LQ S B k w0 w' g s r1 st l lo q ∧ Out 25 30 r r1 ∧ KeepB g w w' := by
  refine (MsgData_la h.la h.tr hs ha hb t).mono ?_
  rintro e w' ⟨a1, r1, rfl, hA, hO, hT⟩
  exact ⟨a1, r1, rfl, h.step hA (fun j hj => hO j (by omega)) hT, hO, hA.kp⟩
set_option maxRecDepth 100000 in
set_option maxHeartbeats 4000000 in
theorem consumeURL_lq {S : Nat → Prop} {B : Nat} {k : LK} {w0 w : World} {g : Nat} {s : ByteArray} {r : Nat → Value} {st : Nat} {l lm lt : List Int} {q : Nat} (h : LQ S B k w0 w g s r st l lt q) (hs : l <:+ lm) (hs2 : lm <:+ lt) (hq : q ≤ 1073741824) {out : List UInt8} {tok : Tok} {R : List Int} (hU : urlF out l = (tok, R, false)) {m : Int} (hm : m = ps s lm) :
    Calls Tryz.prog 110 #[.pointer (some ⟨g, 0, none⟩), .agg #[.int .i32 m]] w (QP S B k w0 g s r st R q tok.kind) := by
  subst hm
  obtain ⟨K, hK⟩ : ∃ x, tok.kind = x := ⟨_, rfl⟩
  rw [hK]
  have HU : Hid ((urlF out l).1.kind = K ∧ (urlF out l).2.1 = R ∧ (urlF out l).2.2 = false) := Lib.hid (by rw [hU]; exact ⟨hK, rfl, rfl⟩)
  clear hU hK
  go_enter Tryz.func110, Tryz.ntmps110
  have hQ0 : LQ S B k w0 (w.alloc (.cells #[.int .i32 (ps s lm)] 48)) g s r st l lt q := h.keepA ((Keep.refl _ _).alloc _)
  have hH0 : (w.alloc (.cells #[.int .i32 (ps s lm)] 48)).heap[w.heap.size]? = some (.cells #[.int .i32 (ps s lm)] 48 (0, 0)) := alloc_at _ rfl
  go_wp2_with fail
  obtain ⟨wa, hwa⟩ : ∃ x, w.alloc (.cells #[.int .i32 (ps s lm)] 48) = x := ⟨_, rfl⟩
  obtain ⟨H, hH⟩ : ∃ x, w.heap.size = x := ⟨_, rfl⟩
  have hHg : H ≠ g := by have := h.la.lt; omega
  rw [hwa] at hQ0 hH0 ⊢
  rw [hH] at hH0 ⊢
  clear hwa hH h
  go_step3
  go_wp2_with fail
  go_step3
  go_upto_block 0 with (fail)
  go_cut [4] (fun u4 wc => BKr S B k w0 g s r st K R q wc)
  case first =>
    go_wp2_with fail
    go_loopg [] l.length (fun n wr => UK S B k w0 g s r st K R lm lt q H n wr)
    case atStart => exact ⟨l, out, rfl, HU.out.1, HU.out.2.1, HU.out.2.2, hs, hQ0, hH0⟩
    case round =>
      obtain ⟨li, out', hk, hu1, hu2, hu3, hsu, hQ, hH⟩ := hrel
      clear hQ0 hH0 HU
      have hne : li ≠ [] := by rintro rfl; rw [urlF] at hu3; cases hu3
      have hm1 : (hd li == -1) = false := ne_eof hQ.la.sfx.all hne
      have HK := Lib.hid hk
      have HLt := Lib.hid (tail_lt' hne)
      have HNE := Lib.hid hne
      have HU1 := Lib.hid hu1
      have HU2 := Lib.hid hu2
      have HU3 := Lib.hid hu3
      have HSM := Lib.hid hsu
      have HST := Lib.hid (hsu.trans hs2)
      have c35 := hQ.la.c35
      clear hk hne hu1 hu2 hu3 hsu
      by_cases h41 : hd li = 41
      · have k1 : (hd li == 41) = true := by simp [h41]
        have he := urlF_at41 HNE.out h41 out'
        have HR : Hid (K = 37 ∧ R = li.tail) := Lib.hid (by rw [← HU1.out, ← HU2.out, he]; exact ⟨rfl, rfl⟩)
        clear h41 he
        go_wp2_with fail
        refine (step_la hQ.la).mono ?_
        rintro e w2 ⟨rfl, hA2⟩
        have hQ2 := hQ.stepS hA2
        clear hA2 hQ
        go_wp2_with fail
        (try rw [Exit.noGoto_ret])
        go_ret
        refine ⟨by rw [HR.out.1]; rfl, r, lt, ?_, Out.refl _ _ _, ?_⟩
        · rw [HR.out.2]; exact hQ2.more (Nat.le_succ _)
        · rw [HR.out.2]; exact (List.tail_suffix _).trans HST.out
      · have k1 : (hd li == 41) = false := by simp [h41]
        cases hsp : isSp (hd li) with
        | true =>
          have HBL := Lib.hid (urlF_blank HNE.out hsp HU3.out)
          have hk := isSp_cases hsp
          clear h41
          go_upto_if 68 with (fail)
          go_cut [68] (fun b wd => b = .bool true ∧ wr = wd)
          case first => as_aux_lemma =>
            rcases hk with k2 | ⟨k2, k3⟩ | ⟨k2, k3, k4⟩ | ⟨k2, k3, k4, k5⟩ | ⟨k2, k3, k4, k5, k6⟩
            all_goals
              go_wp2_with fail
              go_meet
              case rel => exact ⟨by first | rfl | simp [*], rfl⟩
          case rest =>
            obtain ⟨rfl, rfl⟩ := hcut
            clear hk c35
            go_wp2_with fail
            refine (step_la hQ.la).mono ?_
            rintro e w2 ⟨rfl, hA2⟩
            have hQ2 := hQ.stepS hA2
            have hH2 := hA2.kp.blk hH hHg
            clear hA2 hQ hH
            go_wp2_with fail
            go_loopg [] li.tail.length (fun n wx => SU S B k w0 g s r st li lt q H lm n wx)
            case atStart => exact ⟨li.tail, rfl, rfl, List.suffix_refl _, hQ2, hH2⟩
            case round =>
              obtain ⟨lj, hkj, hsj, huj, hQj, hHj⟩ := hrel
              have HKJ := Lib.hid hkj
              have HSJ := Lib.hid hsj
              have d35 := hQj.la.c35
              clear hkj hsj hQ2 hH2
              cases hspj : isSp (hd lj) with
              | true =>
                have hnj : lj ≠ [] := by rintro rfl; simp [isSp, isNL] at hspj
                have HLJ := Lib.hid (tail_lt' hnj)
                have HSN : Hid (spaceF lj.tail = spaceF li.tail) := Lib.hid (by
                  rw [← HSJ.out]
                  cases lj with
                  | nil => exact absurd rfl hnj
                  | cons c t => exact (List.dropWhile_cons_of_pos (by simpa using hspj)).symm)
                clear hnj
                go_wp2_with (go_at_call 34; refine (isWhitespace_calls _ _).mono ?_; rintro e w' ⟨rfl, rfl⟩; rw [hspj])
                refine (step_la hQj.la).mono ?_
                rintro e w3 ⟨rfl, hA3⟩
                have hQ3 := hQj.stepS hA3
                have hH3 := hA3.kp.blk hHj hHg
                clear hA3 hQj hHj
                go_wp2_with fail
                go_roundg lj.tail.length
                case measure => have := HLJ.out; have := HKJ.out; unfold tailLt at *; omega
                case rel => exact ⟨_, rfl, HSN.out, (List.tail_suffix _).trans huj, hQ3, hH3⟩
              | false =>
                have hj : spaceF li.tail = lj := by rw [← HSJ.out]; exact spaceF_stop hspj
                have HBJ : Hid (lj ≠ [] ∧ (hd lj = 41 → K = 37 ∧ R = lj.tail) ∧ (hd lj ≠ 41 → K = 3 ∧ badF lj = (R, false))) := Lib.hid (by
                  have := HBL.out
                  rw [hj, HU1.out, HU2.out] at this
                  exact this)
                have HSMJ : Hid (lj <:+ lm) := Lib.hid ((huj.trans (List.tail_suffix _)).trans HSM.out)
                have HSTJ : Hid (lj <:+ lt) := Lib.hid ((huj.trans (List.tail_suffix _)).trans HST.out)
                clear hj huj
                by_cases h41j : hd lj = 41
                · have kj : (hd lj == 41) = true := by simp [h41j]
                  have kj2 : (hd lj != 41) = false := by simp [h41j]
                  have HR := Lib.hid (HBJ.out.2.1 h41j)
                  clear h41j
                  go_wp2_with (go_at_call 34; refine (isWhitespace_calls _ _).mono ?_; rintro e w' ⟨rfl, rfl⟩; rw [hspj])
                  refine (step_la hQj.la).mono ?_
                  rintro e w3 ⟨rfl, hA3⟩
                  have hQ3 := hQj.stepS hA3
                  clear hA3 hQj hHj
                  go_wp2_with fail
                  (try rw [Exit.noGoto_ret])
                  go_ret
                  refine ⟨by rw [HR.out.1]; rfl, r, lt, ?_, Out.refl _ _ _, ?_⟩
                  · rw [HR.out.2]; exact hQ3.more (Nat.le_succ _)
                  · rw [HR.out.2]; exact (List.tail_suffix _).trans HSTJ.out
                · have kj : (hd lj == 41) = false := by simp [h41j]
                  have kj2 : (hd lj != 41) = true := by simp [h41j]
                  have HBD := Lib.hid (HBJ.out.2.2 h41j)
                  have mj : (hd lj == -1) = false := ne_eof hQj.la.sfx.all HBJ.out.1
                  clear h41j
                  go_upto_region 22 with (go_at_call 34; refine (isWhitespace_calls _ _).mono ?_; rintro e w' ⟨rfl, rfl⟩; rw [hspj])
                  obtain ⟨l1, l2, l3, l4, l5, l6⟩ := hQj.lc
                  have c36 := hQj.la.c36
                  have c37 := hQj.la.c37
                  have z1 := ps_le s lj
                  have z2 : ps s lj ≤ 1073741824 := Nat.le_trans z1 hQj.la.size
                  go_wp2_with fail
                  refine (End_at _ _ z2 _).mono ?_
                  rintro e wb ⟨rfl, hkb⟩
                  have hQb := hQj.keepA hkb
                  have hHb := hkb.blk hHj (fun e => e)
                  clear l1 l2 l3 l4 l5 l6 c36 c37
                  go_upto_region 23 with (fail)
                  obtain ⟨wd, hwd⟩ : ∃ x, wb.alloc (.cells #[.int .i32 (ps s lj)] 48) = x := ⟨_, rfl⟩
                  have hQd : LQ S B k w0 wd g s r st lj lt q := by rw [← hwd]; exact hQb.keepA ((Keep.refl _ _).alloc _)
                  have hHd : wd.heap[H]? = some (.cells #[.int .i32 (ps s lm)] 48 (0, 0)) := by rw [← hwd]; exact alloc_old _ hHb
                  have hH5 : wd.heap[wb.heap.size]? = some (.cells #[.int .i32 (ps s lj)] 48 (0, 0)) := by rw [← hwd]; exact alloc_at _ rfl
                  have hlt5 := hQb.la.lt
                  rw [hwd]
                  clear hwd hQb hHb hkb
                  obtain ⟨H5, hh5⟩ : ∃ x, wb.heap.size = x := ⟨_, rfl⟩
                  have hne5 : H5 ≠ g := by omega
                  rw [hh5] at hH5 ⊢
                  clear hh5
                  have hQe := hQd.keepA ((Keep.refl (fun _ => False) wd).drew)
                  obtain ⟨l1, l2, l3, l4, l5, l6⟩ := hQd.lc
                  have x0 : wd.cell? ⟨H5, 0, none⟩ = some (.int .i32 (ps s lj)) := (blk_cell hH5 0).trans rfl
                  have xh : wd.cell? ⟨H, 0, none⟩ = some (.int .i32 (ps s lm)) := (blk_cell hHd 0).trans rfl
                  go_region_held3 (fun w' => w'.cell? ⟨g, 1, none⟩ = some (.func (.func 48) #[] #[.pointer (some ⟨k.kd, 0, none⟩), .pointer (some ⟨k.mu, 0, none⟩), .pointer (some ⟨k.he, 0, none⟩), .pointer (some ⟨k.ms, 0, none⟩)]) ∧ w'.cell? ⟨g, 2, none⟩ = some (.func (.func 51) #[] #[.pointer (some ⟨k.mu, 0, none⟩), .pointer (some ⟨k.he, 0, none⟩)]) ∧ w'.cell? ⟨g, 3, none⟩ = some (.func (.func 52) #[] #[.pointer (some ⟨k.mu, 0, none⟩), .pointer (some ⟨k.ms, 0, none⟩)]) ∧ w'.cell? ⟨g, 4, none⟩ = some (.func (.func 53) #[] #[.pointer (some ⟨k.mu, 0, none⟩), .pointer (some ⟨k.ms, 0, none⟩)]) ∧ w'.cell? ⟨g, 5, none⟩ = some (.int .i8 3) ∧ w'.cell? ⟨g, 6, none⟩ = some (.map none) ∧ w'.cell? ⟨H5, 0, none⟩ = some (.int .i32 (ps s lj)) ∧ w'.cell? ⟨H, 0, none⟩ = some (.int .i32 (ps s lm))) (go_keep)
                    (first
                      | (go_at_call 107; refine (MsgData_lq hQe hs2 rfl (by decide) _).mono ?_; intro e wm hD; obtain ⟨a1, r1, rfl, hQm, hO1, hkm⟩ := hD; have b5m := hkm.blk hH5 hne5; have bhm := hkm.blk hHd hHg; obtain ⟨m1, m2, m3, m4, m5, m6⟩ := hQm.lc; have y0 : wm.cell? ⟨H5, 0, none⟩ = some (.int .i32 (ps s lj)) := (blk_cell b5m 0).trans rfl; have yh : wm.cell? ⟨H, 0, none⟩ = some (.int .i32 (ps s lm)) := (blk_cell bhm 0).trans rfl)
                      | (go_at_call 125; refine (AddIDWithNotes_lq (hQm.keepA ((Keep.refl (fun _ => False) _).alloc _)) HSMJ.out (by omega) 34 (.inl rfl) rfl (by decide) _ _ _ _).mono ?_; intro e wn hG; obtain ⟨rfl, r2, hQn, hO2, hTK⟩ := hG; have b5n := hTK H5 _ _ _ (alloc_old _ b5m) (by decide) (by decide) (by decide) (by decide) (by decide); have bhn := hTK H _ _ _ (alloc_old _ bhm) (by decide) (by decide) (by decide) (by decide) (by decide); obtain ⟨n1, n2, n3, n4, n5, n6⟩ := hQn.lc; have yy0 : wn.cell? ⟨H5, 0, none⟩ = some (.int .i32 (ps s lj)) := (blk_cell b5n 0).trans rfl; have yyh : wn.cell? ⟨H, 0, none⟩ = some (.int .i32 (ps s lm)) := (blk_cell bhn 0).trans rfl))
                  all_goals
                    have e35 := hQn.la.c35
                    go_wp2_with fail
                    go_meet
                    case rel => exact ⟨lj, lj, r2, HBD.out.2, HBD.out.1, hQn, hO1.trans hO2, List.suffix_refl _⟩
        | false =>
          obtain ⟨p1, p2, p3, p4, p5⟩ := isSp_false hsp
          by_cases hqt : hd li = 34 ∨ hd li = 39 ∨ hd li = 40
          · have HBD : Hid (K = 3 ∧ badF li = (R, false)) := Lib.hid (by
              have := urlF_brk HNE.out h41 hsp (hqt.elim .inl (fun x => x.elim (fun y => .inr (.inl y)) (fun y => .inr (.inr (.inl y))))) HU3.out
              rw [HU1.out, HU2.out] at this
              exact this)
            have hk : (hd li == 34) = true ∨ ((hd li == 34) = false ∧ (hd li == 39) = true) ∨ ((hd li == 34) = false ∧ (hd li == 39) = false ∧ (hd li == 40) = true) := by
              cases q1 : (hd li == 34) with
              | true => exact .inl rfl
              | false =>
                cases q2 : (hd li == 39) with
                | true => exact .inr (.inl ⟨rfl, rfl⟩)
                | false =>
                  rcases hqt with e | e | e
                  · rw [e] at q1; simp at q1
                  · rw [e] at q2; simp at q2
                  · exact .inr (.inr ⟨rfl, rfl, by rw [e]; rfl⟩)
            clear h41 hsp hqt
            rcases hk with k2 | ⟨k2, k3⟩ | ⟨k2, k3, k4⟩
            all_goals
              obtain ⟨l1, l2, l3, l4, l5, l6⟩ := hQ.lc
              have c36 := hQ.la.c36
              have c37 := hQ.la.c37
              have z1 := ps_le s li
              have z2 : ps s li ≤ 1073741824 := Nat.le_trans z1 hQ.la.size
              go_wp2_with fail
              refine (End_at _ _ z2 _).mono ?_
              rintro e wb ⟨rfl, hkb⟩
              have hQb := hQ.keepA hkb
              have hHb := hkb.blk hH (fun e => e)
              clear l1 l2 l3 l4 l5 l6 c36 c37
              go_upto_region 32 with (fail)
              obtain ⟨wd, hwd⟩ : ∃ x, wb.alloc (.cells #[.int .i32 (ps s li), .int .i32 1] 50) = x := ⟨_, rfl⟩
              have hQd : LQ S B k w0 wd g s r st li lt q := by rw [← hwd]; exact hQb.keepA ((Keep.refl _ _).alloc _)
              have hHd : wd.heap[H]? = some (.cells #[.int .i32 (ps s lm)] 48 (0, 0)) := by rw [← hwd]; exact alloc_old _ hHb
              have hH5 : wd.heap[wb.heap.size]? = some (.cells #[.int .i32 (ps s li), .int .i32 1] 50 (0, 0)) := by rw [← hwd]; exact alloc_at _ rfl
              have hlt5 := hQb.la.lt
              rw [hwd]
              clear hwd hQb hHb hkb
              obtain ⟨H5, hh5⟩ : ∃ x, wb.heap.size = x := ⟨_, rfl⟩
              have hne5 : H5 ≠ g := by omega
              rw [hh5] at hH5 ⊢
              clear hh5
              have hQe := hQd.keepA ((Keep.refl (fun _ => False) wd).drew)
              obtain ⟨l1, l2, l3, l4, l5, l6⟩ := hQd.lc
              have x0 : wd.cell? ⟨H5, 0, none⟩ = some (.int .i32 (ps s li)) := (blk_cell hH5 0).trans rfl
              have x1 : wd.cell? ⟨H5, 1, none⟩ = some (.int .i32 1) := (blk_cell hH5 1).trans rfl
              have xh : wd.cell? ⟨H, 0, none⟩ = some (.int .i32 (ps s lm)) := (blk_cell hHd 0).trans rfl
              go_region_held3 (fun w' => w'.cell? ⟨g, 1, none⟩ = some (.func (.func 48) #[] #[.pointer (some ⟨k.kd, 0, none⟩), .pointer (some ⟨k.mu, 0, none⟩), .pointer (some ⟨k.he, 0, none⟩), .pointer (some ⟨k.ms, 0, none⟩)]) ∧ w'.cell? ⟨g, 2, none⟩ = some (.func (.func 51) #[] #[.pointer (some ⟨k.mu, 0, none⟩), .pointer (some ⟨k.he, 0, none⟩)]) ∧ w'.cell? ⟨g, 3, none⟩ = some (.func (.func 52) #[] #[.pointer (some ⟨k.mu, 0, none⟩), .pointer (some ⟨k.ms, 0, none⟩)]) ∧ w'.cell? ⟨g, 4, none⟩ = some (.func (.func 53) #[] #[.pointer (some ⟨k.mu, 0, none⟩), .pointer (some ⟨k.ms, 0, none⟩)]) ∧ w'.cell? ⟨g, 5, none⟩ = some (.int .i8 3) ∧ w'.cell? ⟨g, 6, none⟩ = some (.map none) ∧ w'.cell? ⟨H5, 0, none⟩ = some (.int .i32 (ps s li)) ∧ w'.cell? ⟨H5, 1, none⟩ = some (.int .i32 1) ∧ w'.cell? ⟨H, 0, none⟩ = some (.int .i32 (ps s lm))) (go_keep)
                (first
                  | (go_at_call 107; refine (MsgData_lq hQe hs2 rfl (by decide) _).mono ?_; intro e wm hD; obtain ⟨a1, r1, rfl, hQm, hO1, hkm⟩ := hD; have b5m := hkm.blk hH5 hne5; have bhm := hkm.blk hHd hHg; obtain ⟨m1, m2, m3, m4, m5, m6⟩ := hQm.lc; have y0 : wm.cell? ⟨H5, 0, none⟩ = some (.int .i32 (ps s li)) := (blk_cell b5m 0).trans rfl; have y1 : wm.cell? ⟨H5, 1, none⟩ = some (.int .i32 1) := (blk_cell b5m 1).trans rfl; have yh : wm.cell? ⟨H, 0, none⟩ = some (.int .i32 (ps s lm)) := (blk_cell bhm 0).trans rfl)
                  | (go_at_call 125; refine (AddIDWithNotes_lq (hQm.keepA ((Keep.refl (fun _ => False) _).alloc _)) HSM.out (by omega) 34 (.inl rfl) rfl (by decide) _ _ _ _).mono ?_; intro e wn hG; obtain ⟨rfl, r2, hQn, hO2, hTK⟩ := hG; have b5n := hTK H5 _ _ _ (alloc_old _ b5m) (by decide) (by decide) (by decide) (by decide) (by decide); have bhn := hTK H _ _ _ (alloc_old _ bhm) (by decide) (by decide) (by decide) (by decide) (by decide); obtain ⟨n1, n2, n3, n4, n5, n6⟩ := hQn.lc; have yy0 : wn.cell? ⟨H5, 0, none⟩ = some (.int .i32 (ps s li)) := (blk_cell b5n 0).trans rfl; have yy1 : wn.cell? ⟨H5, 1, none⟩ = some (.int .i32 1) := (blk_cell b5n 1).trans rfl; have yyh : wn.cell? ⟨H, 0, none⟩ = some (.int .i32 (ps s lm)) := (blk_cell bhn 0).trans rfl))
              all_goals
                go_wp2_with fail
                go_meet
                case rel => exact ⟨li, li, r2, HBD.out.2, HBD.out.1, hQn, hO1.trans hO2, List.suffix_refl _⟩
          ·
            by_cases h92 : hd li = 92
            · have k2 : (hd li == 92) = true := by simp [h92]
              have n1 : (hd li == 34) = false := by simp [h92]
              have n2 : (hd li == 39) = false := by simp [h92]
              have n3 : (hd li == 40) = false := by simp [h92]
              have hpk : pk li 1 = hd li.tail := pk_one li
              cases hnl : isNL (hd li.tail) with
              | true =>
                have hes : escs (hd li) (pk li 1) = false := by rw [hpk]; unfold escs; rw [hnl]; simp
                have HBD : Hid (K = 3 ∧ badF li = (R, false)) := Lib.hid (by
                  have := urlF_brk HNE.out h41 hsp (.inr (.inr (.inr (.inr ⟨h92, hnl⟩)))) HU3.out
                  rw [HU1.out, HU2.out] at this
                  exact this)
                clear h41 hsp hqt h92 hnl hpk
                go_wp2_with fail
                refine (isValidEscape_la hQ.la).mono ?_
                rintro e wv ⟨rfl, hkv⟩
                rw [hes]
                have hQv := hQ.keepA hkv
                have hHv := hkv.blk hH (fun e => e)
                clear hQ hH hkv c35
                obtain ⟨l1, l2, l3, l4, l5, l6⟩ := hQv.lc
                have c36 := hQv.la.c36
                have c37 := hQv.la.c37
                have z1 := ps_le s li
                have z2 : ps s li ≤ 1073741824 := Nat.le_trans z1 hQv.la.size
                go_wp2_with fail
                refine (End_at _ _ z2 _).mono ?_
                rintro e wb ⟨rfl, hkb⟩
                have hQb := hQv.keepA hkb
                have hHb := hkb.blk hHv (fun e => e)
                clear l1 l2 l3 l4 l5 l6 c36 c37
                go_upto_region 36 with (fail)
                obtain ⟨wd, hwd⟩ : ∃ x, wb.alloc (.cells #[.int .i32 (ps s li), .int .i32 1] 50) = x := ⟨_, rfl⟩
                have hQd : LQ S B k w0 wd g s r st li lt q := by rw [← hwd]; exact hQb.keepA ((Keep.refl _ _).alloc _)
                have hHd : wd.heap[H]? = some (.cells #[.int .i32 (ps s lm)] 48 (0, 0)) := by rw [← hwd]; exact alloc_old _ hHb
                have hH5 : wd.heap[wb.heap.size]? = some (.cells #[.int .i32 (ps s li), .int .i32 1] 50 (0, 0)) := by rw [← hwd]; exact alloc_at _ rfl
                have hlt5 := hQb.la.lt
                rw [hwd]
                clear hwd hQb hHb hkb
                obtain ⟨H5, hh5⟩ : ∃ x, wb.heap.size = x := ⟨_, rfl⟩
                have hne5 : H5 ≠ g := by omega
                rw [hh5] at hH5 ⊢
                clear hh5
                have hQe := hQd.keepA ((Keep.refl (fun _ => False) wd).drew)
                obtain ⟨l1, l2, l3, l4, l5, l6⟩ := hQd.lc
                have x0 : wd.cell? ⟨H5, 0, none⟩ = some (.int .i32 (ps s li)) := (blk_cell hH5 0).trans rfl
                have x1 : wd.cell? ⟨H5, 1, none⟩ = some (.int .i32 1) := (blk_cell hH5 1).trans rfl
                go_region_held3 (fun w' => w'.cell? ⟨g, 1, none⟩ = some (.func (.func 48) #[] #[.pointer (some ⟨k.kd, 0, none⟩), .pointer (some ⟨k.mu, 0, none⟩), .pointer (some ⟨k.he, 0, none⟩), .pointer (some ⟨k.ms, 0, none⟩)]) ∧ w'.cell? ⟨g, 2, none⟩ = some (.func (.func 51) #[] #[.pointer (some ⟨k.mu, 0, none⟩), .pointer (some ⟨k.he, 0, none⟩)]) ∧ w'.cell? ⟨g, 3, none⟩ = some (.func (.func 52) #[] #[.pointer (some ⟨k.mu, 0, none⟩), .pointer (some ⟨k.ms, 0, none⟩)]) ∧ w'.cell? ⟨g, 4, none⟩ = some (.func (.func 53) #[] #[.pointer (some ⟨k.mu, 0, none⟩), .pointer (some ⟨k.ms, 0, none⟩)]) ∧ w'.cell? ⟨g, 5, none⟩ = some (.int .i8 3) ∧ w'.cell? ⟨g, 6, none⟩ = some (.map none) ∧ w'.cell? ⟨H5, 0, none⟩ = some (.int .i32 (ps s li)) ∧ w'.cell? ⟨H5, 1, none⟩ = some (.int .i32 1)) (go_keep)
                  (first
                    | (go_at_call 77; refine (AddID_lq hQe HST.out (by omega) 34 (.inl rfl) rfl (by decide) _).mono ?_; intro e wn hG; obtain ⟨rfl, r2, hQn, hO2, hTK⟩ := hG; have b5n := hTK H5 _ _ _ hH5 (by decide) (by decide) (by decide) (by decide) (by decide); obtain ⟨n1, n2, n3, n4, n5, n6⟩ := hQn.lc; have yy0 : wn.cell? ⟨H5, 0, none⟩ = some (.int .i32 (ps s li)) := (blk_cell b5n 0).trans rfl; have yy1 : wn.cell? ⟨H5, 1, none⟩ = some (.int .i32 1) := (blk_cell b5n 1).trans rfl; skip))
                all_goals
                  go_wp2_with fail
                  go_meet
                  case rel => exact ⟨li, li, r2, HBD.out.2, HBD.out.1, hQn, hO2, List.suffix_refl _⟩
              | false =>
                have hes : escs (hd li) (pk li 1) = true := by rw [hpk]; unfold escs; rw [hnl, h92]; rfl
                obtain ⟨u1, u2, u3, u4⟩ := urlF_bs h92 hnl HU3.out
                have HX1 : Hid ((urlF (out' ++ enc (escF li.tail).1) (escF li.tail).2.1).1.kind = K) := Lib.hid (by rw [← u2]; exact HU1.out)
                have HX2 : Hid ((urlF (out' ++ enc (escF li.tail).1) (escF li.tail).2.1).2.1 = R) := Lib.hid (by rw [← u3]; exact HU2.out)
                have HX3 := Lib.hid u4
                have HE := Lib.hid u1
                have HLe := Lib.hid (escF_le li.tail)
                have HSU := Lib.hid (escF_suf li.tail)
                clear h41 hsp hqt h92 hnl hpk u1 u2 u3 u4
                go_wp2_with fail
                refine (isValidEscape_la hQ.la).mono ?_
                rintro e wv ⟨rfl, hkv⟩
                rw [hes]
                have hQv := hQ.keepA hkv
                have hHv := hkv.blk hH (fun e => e)
                clear hQ hH hkv c35
                go_wp2_with fail
                refine (consumeEscape_la hQv.la HE.out).mono ?_
                rintro e w3 ⟨rfl, hA3⟩
                have hQ3 := hQv.stepS hA3
                have hH3 := hA3.kp.blk hHv hHg
                clear hA3 hQv hHv
                go_wp2_with fail
                go_roundg (escF li.tail).2.1.length
                case measure => have := HLt.out; have := HLe.out; have := HK.out; unfold tailLt at *; omega
                case rel => exact ⟨_, _, rfl, HX1.out, HX2.out, HX3.out, (HSU.out.trans (List.tail_suffix _)).trans HSM.out, hQ3, hH3⟩
            · have k2 : (hd li == 92) = false := by simp [h92]
              have n1 : (hd li == 34) = false := by simp only [beq_eq_false_iff_ne]; exact fun e => hqt (.inl e)
              have n2 : (hd li == 39) = false := by simp only [beq_eq_false_iff_ne]; exact fun e => hqt (.inr (.inl e))
              have n3 : (hd li == 40) = false := by simp only [beq_eq_false_iff_ne]; exact fun e => hqt (.inr (.inr e))
              have hun := unpr0_hd hQ.la.sfx.all HNE.out
              cases hup : unpr (hd li) with
              | true =>
                have HBD : Hid (K = 3 ∧ badF li = (R, false)) := Lib.hid (by
                  have := urlF_brk HNE.out h41 hsp (.inr (.inr (.inr (.inl hup)))) HU3.out
                  rw [HU1.out, HU2.out] at this
                  exact this)
                rw [hup] at hun
                clear h41 hsp hqt h92 hup
                go_upto_region 3 with (go_at_call 126; refine (isNonPrintable_calls _ _).mono ?_; rintro e w' ⟨rfl, rfl⟩; rw [hun])
                obtain ⟨l1, l2, l3, l4, l5, l6⟩ := hQ.lc
                have c36 := hQ.la.c36
                have c37 := hQ.la.c37
                have z1 := ps_le s li
                have z2 : ps s li ≤ 1073741824 := Nat.le_trans z1 hQ.la.size
                go_wp2_with fail
                refine (End_at _ _ z2 _).mono ?_
                rintro e wb ⟨rfl, hkb⟩
                have hQb := hQ.keepA hkb
                have hHb := hkb.blk hH (fun e => e)
                clear l1 l2 l3 l4 l5 l6 c36 c37
                go_upto_region 4 with (fail)
                obtain ⟨wd, hwd⟩ : ∃ x, wb.alloc (.cells #[.int .i32 (ps s li), .int .i32 1] 50) = x := ⟨_, rfl⟩
                have hQd : LQ S B k w0 wd g s r st li lt q := by rw [← hwd]; exact hQb.keepA ((Keep.refl _ _).alloc _)
                have hHd : wd.heap[H]? = some (.cells #[.int .i32 (ps s lm)] 48 (0, 0)) := by rw [← hwd]; exact alloc_old _ hHb
                have hH5 : wd.heap[wb.heap.size]? = some (.cells #[.int .i32 (ps s li), .int .i32 1] 50 (0, 0)) := by rw [← hwd]; exact alloc_at _ rfl
                have hlt5 := hQb.la.lt
                rw [hwd]
                clear hwd hQb hHb hkb
                obtain ⟨H5, hh5⟩ : ∃ x, wb.heap.size = x := ⟨_, rfl⟩
                have hne5 : H5 ≠ g := by omega
                rw [hh5] at hH5 ⊢
                clear hh5
                have hQe := hQd.keepA ((Keep.refl (fun _ => False) wd).drew)
                obtain ⟨l1, l2, l3, l4, l5, l6⟩ := hQd.lc
                have x0 : wd.cell? ⟨H5, 0, none⟩ = some (.int .i32 (ps s li)) := (blk_cell hH5 0).trans rfl
                have x1 : wd.cell? ⟨H5, 1, none⟩ = some (.int .i32 1) := (blk_cell hH5 1).trans rfl
                go_region_held3 (fun w' => w'.cell? ⟨g, 1, none⟩ = some (.func (.func 48) #[] #[.pointer (some ⟨k.kd, 0, none⟩), .pointer (some ⟨k.mu, 0, none⟩), .pointer (some ⟨k.he, 0, none⟩), .pointer (some ⟨k.ms, 0, none⟩)]) ∧ w'.cell? ⟨g, 2, none⟩ = some (.func (.func 51) #[] #[.pointer (some ⟨k.mu, 0, none⟩), .pointer (some ⟨k.he, 0, none⟩)]) ∧ w'.cell? ⟨g, 3, none⟩ = some (.func (.func 52) #[] #[.pointer (some ⟨k.mu, 0, none⟩), .pointer (some ⟨k.ms, 0, none⟩)]) ∧ w'.cell? ⟨g, 4, none⟩ = some (.func (.func 53) #[] #[.pointer (some ⟨k.mu, 0, none⟩), .pointer (some ⟨k.ms, 0, none⟩)]) ∧ w'.cell? ⟨g, 5, none⟩ = some (.int .i8 3) ∧ w'.cell? ⟨g, 6, none⟩ = some (.map none) ∧ w'.cell? ⟨H5, 0, none⟩ = some (.int .i32 (ps s li)) ∧ w'.cell? ⟨H5, 1, none⟩ = some (.int .i32 1)) (go_keep)
                  (first
                    | (go_at_call 77; refine (AddID_lq hQe HST.out (by omega) 34 (.inl rfl) rfl (by decide) _).mono ?_; intro e wn hG; obtain ⟨rfl, r2, hQn, hO2, hTK⟩ := hG; have b5n := hTK H5 _ _ _ hH5 (by decide) (by decide) (by decide) (by decide) (by decide); obtain ⟨n1, n2, n3, n4, n5, n6⟩ := hQn.lc; have yy0 : wn.cell? ⟨H5, 0, none⟩ = some (.int .i32 (ps s li)) := (blk_cell b5n 0).trans rfl; have yy1 : wn.cell? ⟨H5, 1, none⟩ = some (.int .i32 1) := (blk_cell b5n 1).trans rfl; skip))
                all_goals
                  go_wp2_with fail
                  go_meet
                  case rel => exact ⟨li, li, r2, HBD.out.2, HBD.out.1, hQn, hO2, List.suffix_refl _⟩
              | false =>
                have u0 := urlF_on HNE.out h41 hsp ⟨fun e => hqt (.inl e), fun e => hqt (.inr (.inl e)), fun e => hqt (.inr (.inr e)), hup, h92⟩ out'
                have HX1 : Hid ((urlF (out' ++ enc (hd li)) li.tail).1.kind = K) := Lib.hid (by rw [← u0]; exact HU1.out)
                have HX2 : Hid ((urlF (out' ++ enc (hd li)) li.tail).2.1 = R) := Lib.hid (by rw [← u0]; exact HU2.out)
                have HX3 : Hid ((urlF (out' ++ enc (hd li)) li.tail).2.2 = false) := Lib.hid (by rw [← u0]; exact HU3.out)
                rw [hup] at hun
                clear h41 hsp hqt h92 hup u0
                go_wp2_with (go_at_call 126; refine (isNonPrintable_calls _ _).mono ?_; rintro e w' ⟨rfl, rfl⟩; rw [hun])
                refine (step_la hQ.la).mono ?_
                rintro e w3 ⟨rfl, hA3⟩
                have hQ3 := hQ.stepS hA3
                have hH3 := hA3.kp.blk hH hHg
                clear hA3 hQ hH
                go_wp2_with fail
                go_roundg li.tail.length
                case measure => have := HLt.out; have := HK.out; unfold tailLt at *; omega
                case rel => exact ⟨_, _, rfl, HX1.out, HX2.out, HX3.out, (List.tail_suffix _).trans HSM.out, hQ3, hH3⟩
  case rest =>
    obtain ⟨lb, lt', r', hb, hK3, hQ, hO, hsb⟩ := hcut
    subst hK3
    have HB := Lib.hid hb
    clear hb hQ0 hH0 HU
    go_wp2_with fail
    go_loopg [] lb.length (fun n wr => VK S B k w0 g s r' st R lt' q n wr)
    case atStart => exact ⟨lb, rfl, HB.out, hsb, hQ⟩
    case round =>
      obtain ⟨li, hk, hbd, hsu, hQi⟩ := hrel
      clear hQ hsb HB
      have hne : li ≠ [] := by rintro rfl; rw [badF] at hbd; simp at hbd
      have hm1 : (hd li == -1) = false := ne_eof hQi.la.sfx.all hne
      have HK := Lib.hid hk
      have HLt := Lib.hid (tail_lt' hne)
      have HNE := Lib.hid hne
      have c35 := hQi.la.c35
      clear hk hne
      by_cases h41 : hd li = 41
      · have k1 : (hd li == 41) = true := by simp [h41]
        have HR : Hid (R = li.tail) := Lib.hid (badF_at41 HNE.out h41 hbd)
        clear h41 hbd
        go_wp2_with fail
        refine (step_la hQi.la).mono ?_
        rintro e w2 ⟨rfl, hA2⟩
        have hQ2 := hQi.stepS hA2
        clear hA2 hQi
        go_wp2_with fail
        (try rw [Exit.noGoto_ret])
        go_ret
        refine ⟨rfl, r', lt', ?_, hO, ?_⟩
        · rw [HR.out]; exact hQ2
        · rw [HR.out]; exact (List.tail_suffix _).trans hsu
      · have k1 : (hd li == 41) = false := by simp [h41]
        obtain ⟨hes, hbt⟩ := badF_on HNE.out h41 hbd
        have HBT := Lib.hid hbt
        by_cases h92 : hd li = 92
        · have k2 : (hd li == 92) = true := by simp [h92]
          have hes2 : escs (hd li) (pk li 1) = false := hes
          clear h41 h92 hbd hes hbt
          go_wp2_with fail
          refine (isValidEscape_la hQi.la).mono ?_
          rintro e w2 ⟨rfl, hk2⟩
          rw [hes2]
          have hQ2 := hQi.keepA hk2
          clear hQi hk2
          go_wp2_with fail
          refine (step_la hQ2.la).mono ?_
          rintro e w3 ⟨rfl, hA3⟩
          have hQ3 := hQ2.stepS hA3
          go_wp2_with fail
          go_roundg li.tail.length
          case measure => have := HLt.out; have := HK.out; unfold tailLt at *; omega
          case rel => exact ⟨_, rfl, HBT.out, (List.tail_suffix _).trans hsu, hQ3⟩
        · have k2 : (hd li == 92) = false := by simp [h92]
          clear h41 h92 hbd hes hbt
          go_wp2_with fail
          refine (step_la hQi.la).mono ?_
          rintro e w3 ⟨rfl, hA3⟩
          have hQ3 := hQi.stepS hA3
          go_wp2_with fail
          go_roundg li.tail.length
          case measure => have := HLt.out; have := HK.out; unfold tailLt at *; omega
          case rel => exact ⟨_, rfl, HBT.out, (List.tail_suffix _).trans hsu, hQ3⟩
end Go.Proofs.YtedckphklebndaaGreatDoor
