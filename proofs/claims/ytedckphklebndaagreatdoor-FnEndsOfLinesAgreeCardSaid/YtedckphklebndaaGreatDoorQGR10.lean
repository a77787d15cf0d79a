/- The package's consumeIdentLike, walked. Conditions: those of the lexer in memory with its log (LQ); nothing is left open; the token begins here. -/
import Derived.Test.YtedckphklebndaaGreatDoorQR9
import Derived.Deep.QuietTactic
import Derived.BigQuiet
namespace Go.Proofs.YtedckphklebndaaGreatDoor
open Go Go.RowKit
theorem namedF_open {l : List Int} (h : (namedF l).2.2 = false) : (nameF l).2.2 = false := by
  unfold namedF at h
  split at h
  · split at h
    · simp only [Bool.or_eq_false_iff] at h; exact h.1.1.1
    · exact h
  · exact h
theorem isUrl_bytes {nm : ByteArray} (h : nm.size = 3) {x y z : Nat} (hx : ∀ hi : 0 < nm.size, (nm[0]'hi).toNat = x) (hy : ∀ hi : 1 < nm.size, (nm[1]'hi).toNat = y) (hz : ∀ hi : 2 < nm.size, (nm[2]'hi).toNat = z) :
    isUrl nm.data.toList = (((x : Int) == 117 || (x : Int) == 85) && ((y : Int) == 114 || (y : Int) == 82) && ((z : Int) == 108 || (z : Int) == 76)) := by
  have e0 := list_get_ba nm 0 (by omega)
  have e1 := list_get_ba nm 1 (by omega)
  have e2 := list_get_ba nm 2 (by omega)
  have hx' := hx (by omega)
  have hy' := hy (by omega)
  have hz' := hz (by omega)
  have hl : nm.data.toList.length = 3 := by rw [← h]; simp
  generalize nm[0]'(by omega) = a at e0 hx'
  generalize nm[1]'(by omega) = b at e1 hy'
  generalize nm[2]'(by omega) = c at e2 hz'
  have hL : nm.data.toList = [a, b, c] := by
    generalize nm.data.toList = L at *
    rcases L with _ | ⟨p, _ | ⟨p2, _ | ⟨p3, _ | ⟨p4, L⟩⟩⟩⟩
    · simp at hl
    · simp at hl
    · simp at hl
    · simp at e0 e1 e2; rw [e0, e1, e2]
    · simp at hl
  rw [hL]
  have key : ∀ (u : UInt8) (n : Nat) (v : UInt8) (w : Int), u.toNat = n → (v.toNat : Int) = w → (u == v) = ((n : Int) == w) := by
    intro u n v w h1 h2
    subst h1 h2
    rw [Bool.eq_iff_iff, beq_iff_eq, beq_iff_eq]
    constructor
    · intro e; rw [e]
    · intro e; exact UInt8.toNat_inj.1 (by omega)
  simp only [isUrl]
  rw [key a x 117 117 hx' rfl, key a x 85 85 hx' rfl, key b y 114 114 hy' rfl, key b y 82 82 hy' rfl, key c z 108 108 hz' rfl, key c z 76 76 hz' rfl]
/-- Back at a place. -/
theorem LA.back {w0 w : World} {g : Nat} {s : ByteArray} {r : Nat → Value} {st : Nat} {l t : List Int} (h : LA w0 w g s r st l) (hS : Sfx s t) (hst : st ≤ ps s t) {nl : Int} (n0 : 0 ≤ nl) (n1 : nl ≤ ps s t.tail) :
    LA w0 ((((w.setCell ⟨g, 32, none⟩ (.int .i64 nl)).setCell ⟨g, 35, none⟩ (.int .i32 (hd t))).setCell ⟨g, 37, none⟩ (.int .i32 ((ps s t : Int) - st))).setCell ⟨g, 33, none⟩ (.int .i64 (ps s t.tail))) g s r st t := by
  have hb := h.big
  obtain ⟨nl0, _, _, hL⟩ := h.lx
  have hK : KeepB g w ((((w.setCell ⟨g, 32, none⟩ (.int .i64 nl)).setCell ⟨g, 35, none⟩ (.int .i32 (hd t))).setCell ⟨g, 37, none⟩ (.int .i32 ((ps s t : Int) - st))).setCell ⟨g, 33, none⟩ (.int .i64 (ps s t.tail))) :=
    ((((Keep.refl (fun k => k = g) w).setCell (p := ⟨g, 32, none⟩) (fun _ => rfl) _).setCell (p := ⟨g, 35, none⟩) (fun _ => rfl) _).setCell (p := ⟨g, 37, none⟩) (fun _ => rfl) _).setCell (p := ⟨g, 33, none⟩) (fun _ => rfl) _
  exact ⟨⟨nl, n0, n1, (blk_set (blk_set (blk_set (blk_set hL 32 _) 35 _) 37 _) 33 _).trans rfl⟩, hS, h.kp.trans hK, h.size, tabs_keep h.tabs hK (by omega) (by omega), h.big, hst⟩
/-- consumeIdentLike's loop over whitespace. -/
def IW (S : Nat → Prop) (B : Nat) (k : LK) (w0 : World) (g : Nat) (s : ByteArray) (r : Nat → Value) (st : Nat) (m lt : List Int) (q H pm : Nat) (n : Nat) (w : World) : Prop :=
  ∃ lj, lj.length = n ∧ spaceF lj = spaceF m ∧ lj <:+ m ∧ LQ S B k w0 w g s r st lj lt q ∧ w.heap[H]? = some (.cells #[.int .i32 pm] 48 (0, 0))
set_option maxRecDepth 100000 in
set_option maxHeartbeats 4000000 in
theorem consumeIdentLike_lq {S : Nat → Prop} {B : Nat} {k : LK} {w0 w : World} {g : Nat} {s : ByteArray} {r : Nat → Value} {st : Nat} {l lt : List Int} {q : Nat} (h : LQ S B k w0 w g s r st l lt q) (hs : l <:+ lt) (hq : q ≤ 1073741824) (ho : (namedF l).2.2 = false) (hst : st = ps s l) :
    Calls Tryz.prog 85 #[.pointer (some ⟨g, 0, none⟩)] w (QP S B k w0 g s r st (namedF l).2.1 q (namedF l).1.kind) := by
  have HNO := Lib.hid (namedF_open ho)
  have HO := Lib.hid ho
  have HST := Lib.hid hst
  clear ho hst
  go_enter Tryz.func85, Tryz.ntmps85
  go_wp2_with fail
  refine (consumeName_la h.la HNO.out).mono ?_
  rintro e w1 ⟨nm, rfl, hR, hA1⟩
  have hQ1 := h.stepS hA1
  have HR := Lib.hid (hR HST.out)
  obtain ⟨m, hm⟩ : ∃ x, (nameF l).2.1 = x := ⟨_, rfl⟩
  have hmu : m <:+ l := by rw [← hm]; exact nameF_suf l
  rw [hm] at hQ1
  have HM := Lib.hid hm
  have HMT := Lib.hid (hmu.trans hs)
  have c35 := hQ1.la.c35
  clear h hA1 hR hm hmu hs
  by_cases h40 : hd m = 40
  · have k1 : (hd m == 40) = true := by simp [h40]
    have H40 := Lib.hid h40
    have c36 := hQ1.la.c36
    have c37 := hQ1.la.c37
    have z1 := ps_le s m
    have z2 : ps s m ≤ 1073741824 := Nat.le_trans z1 hQ1.la.size
    clear h40
    go_wp2_with fail
    refine (End_at _ _ z2 _).mono ?_
    rintro e w2 ⟨rfl, hk2⟩
    have hQ2 := hQ1.keepA hk2
    clear hQ1 hk2 c35 c36 c37
    go_wp2_with fail
    have hQ3 : LQ S B k w0 (w2.alloc (.cells #[.int .i32 (ps s m)] 48)) g s r st m lt q := hQ2.keepA ((Keep.refl _ _).alloc _)
    have hH3 : (w2.alloc (.cells #[.int .i32 (ps s m)] 48)).heap[w2.heap.size]? = some (.cells #[.int .i32 (ps s m)] 48 (0, 0)) := alloc_at _ rfl
    have hHg : w2.heap.size ≠ g := by have := hQ2.la.lt; omega
    obtain ⟨wa, hwa⟩ : ∃ x, w2.alloc (.cells #[.int .i32 (ps s m)] 48) = x := ⟨_, rfl⟩
    obtain ⟨H, hH⟩ : ∃ x, w2.heap.size = x := ⟨_, rfl⟩
    rw [hwa] at hQ3 hH3 ⊢
    rw [hH] at hH3 hHg ⊢
    clear hwa hH hQ2
    refine (step_la hQ3.la).mono ?_
    rintro e w4 ⟨rfl, hA4⟩
    have hQ4 := hQ3.stepS hA4
    have hH4 := hA4.kp.blk hH3 hHg
    clear hA4 hQ3 hH3
    obtain ⟨t, ht⟩ : ∃ x, m.tail = x := ⟨_, rfl⟩
    have htm : t <:+ m := by rw [← ht]; exact List.tail_suffix m
    rw [ht] at hQ4
    have HT := Lib.hid ht
    have HTM := Lib.hid htm
    clear ht htm
    by_cases hsz : nm.size = 3
    · have hns : ((nm.size : Int) == 3) = true := by rw [hsz]; rfl
      obtain ⟨x, hx⟩ : ∃ x : Nat, ∀ hi : 0 < nm.size, (nm[0]'hi).toNat = x := ⟨(nm[0]'(by omega)).toNat, fun _ => rfl⟩
      obtain ⟨y, hy⟩ : ∃ x : Nat, ∀ hi : 1 < nm.size, (nm[1]'hi).toNat = x := ⟨(nm[1]'(by omega)).toNat, fun _ => rfl⟩
      obtain ⟨z, hz⟩ : ∃ x : Nat, ∀ hi : 2 < nm.size, (nm[2]'hi).toNat = x := ⟨(nm[2]'(by omega)).toNat, fun _ => rfl⟩
      have hU : isUrl (nameF l).1 = (((x : Int) == 117 || (x : Int) == 85) && ((y : Int) == 114 || (y : Int) == 82) && ((z : Int) == 108 || (z : Int) == 76)) := by
        rw [← HR.out]; exact isUrl_bytes hsz hx hy hz
      have HUU := Lib.hid hU
      have b0 : (0 : Int) < nm.size := by omega
      have b1 : (1 : Int) < nm.size := by omega
      have b2 : (2 : Int) < nm.size := by omega
      clear hU hsz
      go_wp2_with fail
      go_quiet (fail)
      have hQ5 : LQ S B k w0 (w4.drewN nq) g s r st t lt q := hQ4.keepA ((Keep.refl _ _).drewN nq)
      have hH5 : (w4.drewN nq).heap[H]? = some (.cells #[.int .i32 (ps s m)] 48 (0, 0)) := hH4
      obtain ⟨w5, hw5⟩ : ∃ x, w4.drewN nq = x := ⟨_, rfl⟩
      rw [hw5] at hQ5 hH5 ⊢
      clear hw5 hQ4 hH4 b0 b1 b2 hns
      go_upto_region 7 with (fail)
      go_cut [58] (fun b wd => BW ((((x : Int) == 117 || (x : Int) == 85) && ((y : Int) == 114 || (y : Int) == 82)) && ((z : Int) == 108 || (z : Int) == 76)) w5 b wd)
      case first => as_aux_lemma =>
        clear hx hy hz
        rcases tri2 ((x : Int) == 117) ((x : Int) == 85) with q | ⟨q, q2⟩ | ⟨q, q2⟩ <;> rcases tri2 ((y : Int) == 114) ((y : Int) == 82) with p | ⟨p, p2⟩ | ⟨p, p2⟩ <;> rcases tri2 ((z : Int) == 108) ((z : Int) == 76) with o | ⟨o, o2⟩ | ⟨o, o2⟩
        all_goals
          go_wp2_with fail
          go_meet
          case rel => exact ⟨by simp [*], rfl⟩
      case rest =>
        obtain ⟨rfl, rfl⟩ := hcut
        rw [← HUU.out]
        clear hx hy hz
        cases hu : isUrl (nameF l).1 with
        | false =>
          have HE : Hid (namedF l = ({ kind := 27, text := (nameF l).1 }, t, (nameF l).2.2)) := Lib.hid (by
            unfold namedF
            rw [HM.out, if_pos H40.out, if_neg (by rw [hu]; simp), HT.out])
          go_wp2_with fail
          go_ret
          refine ⟨by rw [HE.out]; rfl, r, lt, ?_, Out.refl _ _ _, ?_⟩
          · rw [HE.out]; exact hQ5.more (Nat.le_succ _)
          · rw [HE.out]; exact HTM.out.trans HMT.out
        | true =>
          obtain ⟨nl, n0, n1, hL⟩ := hQ5.la.lx
          have c32 := hL.c32
          have c33 := hL.c33
          have c35 := hL.c35
          have c37 := hL.c37
          have HL := Lib.hid hL
          clear hL
          go_wp2_with fail
          go_loopg [] t.length (fun n wx => IW S B k w0 g s r st t lt q H (ps s m) n wx)
          case atStart => exact ⟨t, rfl, rfl, List.suffix_refl _, hQ5, hH5⟩
          case round =>
            obtain ⟨lj, hkj, hsj, huj, hQj, hHj⟩ := hrel
            have HKJ := Lib.hid hkj
            have HSJ := Lib.hid hsj
            have HUJ := Lib.hid huj
            clear hkj hsj huj c32 c33 c35 c37
            have d35 := hQj.la.c35
            cases hspj : isSp (hd lj) with
            | true =>
              have hnj : lj ≠ [] := by rintro rfl; simp [isSp, isNL] at hspj
              have HLJ := Lib.hid (tail_lt' hnj)
              have HSN : Hid (spaceF lj.tail = spaceF t) := Lib.hid (by
                rw [← HSJ.out]
                cases lj with
                | nil => exact absurd rfl hnj
                | cons c t => exact (List.dropWhile_cons_of_pos (by simpa using hspj)).symm)
              clear hnj hQ5 hH5
              go_wp2_with (go_at_call 34; refine (isWhitespace_calls _ _).mono ?_; rintro e w' ⟨rfl, rfl⟩; rw [hspj])
              refine (step_la hQj.la).mono ?_
              rintro e w6 ⟨rfl, hA6⟩
              have hQ6 := hQj.stepS hA6
              have hH6 := hA6.kp.blk hHj hHg
              clear hA6 hQj hHj
              go_wp2_with fail
              go_roundg lj.tail.length
              case measure => have := HLJ.out; have := HKJ.out; unfold tailLt at *; omega
              case rel => exact ⟨_, rfl, HSN.out, (List.tail_suffix _).trans HUJ.out, hQ6, hH6⟩
            | false =>
              have HJ : Hid (spaceF t = lj) := Lib.hid (by rw [← HSJ.out]; exact spaceF_stop hspj)
              by_cases hqt : hd lj = 34 ∨ hd lj = 39
              · have HE : Hid (namedF l = ({ kind := 27, text := (nameF l).1 }, t, (nameF l).2.2)) := Lib.hid (by
                  unfold namedF
                  rw [HM.out, if_pos H40.out, HT.out, HJ.out, if_neg (fun e => hqt.elim e.2.1 e.2.2)])
                have hk : (hd lj != 34) = false ∨ ((hd lj != 34) = true ∧ (hd lj != 39) = false) := by
                  rcases hqt with e | e
                  · exact .inl (by rw [e]; rfl)
                  · exact .inr ⟨by rw [e]; rfl, by rw [e]; rfl⟩
                have d32 : ∃ v, wr.cell? ⟨g, 32, none⟩ = some v := by obtain ⟨_, _, _, hL⟩ := hQj.la.lx; exact ⟨_, hL.c32⟩
                obtain ⟨v32, d32⟩ := d32
                have d33 := hQj.la.c33
                have d37 := hQj.la.c37
                have f32 := hQj.la.frozen 32
                have f33 := hQj.la.frozen 33
                have f35 := hQj.la.frozen 35
                have f37 := hQj.la.frozen 37
                have hAb : LA wr ((((wr.setCell ⟨g, 32, none⟩ (.int .i64 nl)).setCell ⟨g, 35, none⟩ (.int .i32 (hd t))).setCell ⟨g, 37, none⟩ (.int .i32 ((ps s t : Int) - st))).setCell ⟨g, 33, none⟩ (.int .i64 (ps s t.tail))) g s r st t := hQj.la.now.back hQ5.la.sfx hQ5.la.from_ n0 n1
                have hQb := hQj.stepS hAb
                clear hqt hAb hQj hHj hQ5 hH5
                rcases hk with k2 | ⟨k2, k3⟩
                all_goals
                  go_wp2_with (go_at_call 34; refine (isWhitespace_calls _ _).mono ?_; rintro e w' ⟨rfl, rfl⟩; rw [hspj])
                  go_ret
                  refine ⟨by rw [HE.out]; rfl, r, lt, ?_, Out.refl _ _ _, ?_⟩
                  · rw [HE.out]; exact hQb.more (Nat.le_succ _)
                  · rw [HE.out]; exact HTM.out.trans HMT.out
              · have k2 : (hd lj != 34) = true := by simp only [bne_iff_ne]; exact fun e => hqt (.inl e)
                have k3 : (hd lj != 39) = true := by simp only [bne_iff_ne]; exact fun e => hqt (.inr e)
                have HX : Hid ((namedF l).1 = (urlF [] lj).1 ∧ (namedF l).2.1 = (urlF [] lj).2.1 ∧ (urlF [] lj).2.2 = false) := Lib.hid (by
                  have e := HO.out
                  unfold namedF at e ⊢
                  rw [HM.out, if_pos H40.out, HT.out, HJ.out] at e ⊢
                  rw [if_pos ⟨hu, fun x => hqt (.inl x), fun x => hqt (.inr x)⟩] at e ⊢
                  simp only [Bool.or_eq_false_iff] at e
                  exact ⟨rfl, rfl, e.1.1.2⟩)
                have xh : wr.cell? ⟨H, 0, none⟩ = some (.int .i32 (ps s m)) := (blk_cell hHj 0).trans rfl
                clear hqt hQ5 hH5
                go_wp2_with (go_at_call 34; refine (isWhitespace_calls _ _).mono ?_; rintro e w' ⟨rfl, rfl⟩; rw [hspj])
                refine (consumeURL_lq hQj (HUJ.out.trans HTM.out) HMT.out hq (out := []) (tok := (urlF [] lj).1) (R := (urlF [] lj).2.1) (Prod.ext rfl (Prod.ext rfl HX.out.2.2)) rfl).mono ?_
                intro e w6 hP
                obtain ⟨rfl, hP⟩ := hP
                go_wp2_with fail
                go_ret
                refine ⟨by rw [HX.out.1]; rfl, ?_⟩
                rw [HX.out.2.1]
                exact hP
    · have hns : ((nm.size : Int) == 3) = false := by simp only [beq_eq_false_iff_ne]; omega
      have HE : Hid (namedF l = ({ kind := 27, text := (nameF l).1 }, t, (nameF l).2.2)) := Lib.hid (by
        have hu : isUrl (nameF l).1 = false := by
          rw [← HR.out]
          have hl : nm.data.toList.length = nm.size := by simp
          generalize nm.data.toList = L at hl
          rcases L with _ | ⟨p, _ | ⟨p2, _ | ⟨p3, _ | ⟨p4, L⟩⟩⟩⟩
          · rfl
          · rfl
          · rfl
          · simp at hl; omega
          · rfl
        unfold namedF
        rw [HM.out, if_pos H40.out, if_neg (by rw [hu]; simp), HT.out])
      clear hsz
      go_wp2_with fail
      go_ret
      refine ⟨by rw [HE.out]; rfl, r, lt, ?_, Out.refl _ _ _, ?_⟩
      · rw [HE.out]; exact hQ4.more (Nat.le_succ _)
      · rw [HE.out]; exact HTM.out.trans HMT.out
  · have k1 : (hd m == 40) = false := by simp [h40]
    have HE : Hid (namedF l = ({ kind := 29, text := (nameF l).1 }, (nameF l).2.1, (nameF l).2.2)) := Lib.hid (by unfold namedF; rw [HM.out, if_neg h40])
    clear h40
    go_wp2_with fail
    go_ret
    refine ⟨by rw [HE.out]; rfl, r, lt, ?_, Out.refl _ _ _, ?_⟩
    · rw [HE.out]; show LQ S B k w0 w1 g s r st (nameF l).2.1 lt (q + 1); rw [HM.out]; exact hQ1.more (Nat.le_succ _)
    · rw [HE.out]; show (nameF l).2.1 <:+ lt; rw [HM.out]; exact HMT.out
end Go.Proofs.YtedckphklebndaaGreatDoor
/- The package's containsAtPreserveOrAtLicense, walked. Condition: a text of at most 2^31 bytes. -/
namespace Go.Proofs.YtedckphklebndaaGreatDoor
open Go Go.RowKit Go.Lib
theorem dec_fits (s : ByteArray) {i : Nat} (h : i < s.size) : 1 ≤ (Utf8.decode s i).2 ∧ i + (Utf8.decode s i).2 ≤ s.size := by
  have hz : s.data.toList.length = s.size := by simp
  have hn : s.data.toList.drop i ≠ [] := by
    intro e
    have := congrArg List.length e
    rw [List.length_drop, List.length_nil] at this
    omega
  have h1 := Lib.decodeL_le _ hn
  rw [Lib.decodeL_drop, List.length_drop] at h1
  exact ⟨Lib.width_pos s i, by omega⟩
theorem KeepA.iterAt {w w1 : World} (h : KeepA w w1) {H : Nat} (hH : w.heap.size ≤ H) (s : ByteArray) (pos : Nat) : KeepA w (w1.iterAt H s pos) :=
  ⟨h.os, h.tape, h.output, by rw [iterAt_size]; exact h.size, fun i hi _ => (iterAt_other w1 H i s pos (by omega)).trans (h.block i hi (fun e => e))⟩
theorem hasPre_calls (s p : ByteArray) (w : World) : Calls Tryz.prog 103 #[.string s, .string p] w fun e w' => ∃ b : Bool, e = .returned (.bool b) ∧ w = w' :=
  (Tryz.strings_HasPrefix s p w).mono fun _ _ h => ⟨_, h.1, h.2.symm⟩
/-- The loop over a text. -/
def CA (w0 : World) (H : Nat) (s : ByteArray) (n : Nat) (w : World) : Prop := ∃ i, i ≤ s.size ∧ n = s.size - i ∧ w.heap[H]? = some (.stringIter s i) ∧ KeepA w0 w
def CB (w0 : World) (e : Ending) (w : World) : Prop := ∃ b : Bool, e = .returned (.bool b) ∧ KeepA w0 w
set_option maxRecDepth 100000 in
set_option maxHeartbeats 2000000 in
theorem containsAt_calls (s : ByteArray) (hs : s.size ≤ 2147483647) (w : World) : Calls Tryz.prog 104 #[.string s] w (CB w) := by
  have hK0 : KeepA w (w.iter s 0) := (Keep.refl _ w).alloc _
  have hH0 := World.iter_heap w s 0
  go_enter Tryz.func104, Tryz.ntmps104
  go_wp2_with fail
  obtain ⟨w1, hw1⟩ : ∃ x, w.iter s 0 = x := ⟨_, rfl⟩
  obtain ⟨H, hH⟩ : ∃ x, w.heap.size = x := ⟨_, rfl⟩
  rw [hw1] at hK0 hH0
  (try rw [hw1])
  rw [hH] at hH0
  (try rw [hH])
  have hHw : w.heap.size ≤ H := by omega
  clear hw1 hH
  go_loopg [] s.size (fun n wr => CA w H s n wr)
  case atStart => exact ⟨0, Nat.zero_le _, rfl, hH0, hK0⟩
  case round =>
    obtain ⟨i, hi, hn, hk, hK⟩ := hrel
    have HN := Lib.hid hn
    clear hn hK0 hH0
    by_cases hlt : i < s.size
    · obtain ⟨d1, d2⟩ := dec_fits s hlt
      have hnx := fun ty => run_next_any_at (P := Tryz.prog) wr H s i ty hk hlt
      obtain ⟨c, hc⟩ : ∃ c, (Utf8.decode s i).1 = c := ⟨_, rfl⟩
      obtain ⟨d, hd⟩ : ∃ d, (Utf8.decode s i).2 = d := ⟨_, rfl⟩
      rw [hc, hd] at hnx
      rw [hd] at d1 d2
      have hK2 : KeepA w (wr.iterAt H s (i + d)) := hK.iterAt hHw s (i + d)
      have hk2 : (wr.iterAt H s (i + d)).heap[H]? = some (.stringIter s (i + d)) := iterAt_heap wr H s i (i + d) hk
      obtain ⟨wn, hwn⟩ : ∃ x, wr.iterAt H s (i + d) = x := ⟨_, rfl⟩
      rw [hwn] at hnx hK2 hk2
      clear hwn hc hd hk hK
      by_cases h64 : (c : Int) = 64
      · have k1 : ((c : Int) == 64) = true := by simp [h64]
        clear h64
        go_wp2_with fail
        refine (hasPre_calls _ _ _).mono ?_
        rintro e w' ⟨b1, rfl, rfl⟩
        cases b1 with
        | true =>
          go_wp2_with fail
          go_ret
          exact ⟨_, rfl, hK2⟩
        | false =>
          go_wp2_with fail
          refine (hasPre_calls _ _ _).mono ?_
          rintro e w' ⟨b2, rfl, rfl⟩
          cases b2 with
          | true =>
            go_wp2_with fail
            go_ret
            exact ⟨_, rfl, hK2⟩
          | false =>
            go_wp2_with fail
            go_roundg (s.size - (i + d))
            case measure => have := HN.out; omega
            case rel => exact ⟨i + d, d2, rfl, hk2, hK2⟩
      · have k1 : ((c : Int) == 64) = false := by simp [h64]
        clear h64
        go_wp2_with fail
        go_roundg (s.size - (i + d))
        case measure => have := HN.out; omega
        case rel => exact ⟨i + d, d2, rfl, hk2, hK2⟩
    · have hnx := fun ty => run_next_end_at (P := Tryz.prog) wr H s i ty hk hlt
      go_wp2_with fail
      go_ret
      exact ⟨_, rfl, hK⟩
end Go.Proofs.YtedckphklebndaaGreatDoor
