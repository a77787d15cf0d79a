/- The reference's Tokens, walked: the list of tokens, where comments stand, and whether something is left open. Condition: the text is plain (Sfx) and at most 2^40 bytes. -/
import Derived.Test.YtedckphklebndaaGreatDoorQGP
import Derived.Lib.MapLaws
namespace Go.Proofs.YtedckphklebndaaGreatDoor
open Go Go.RowKit
theorem info42 : (Tryz.prog.info? 42).map (fun i => (i.zero, i.size, i.bytes)) = some (some (.agg #[.int .i64 0, .int .i64 0, .int .i64 0, .int .i64 0, .bool false, .string ⟨#[]⟩]), 6, 56) := by kernel_rfl
theorem urlF_kind (l : List Int) : ∀ out, (urlF out l).1.kind = 37 ∨ (urlF out l).1.kind = 3 := by
  induction hn : l.length using Nat.strongRecOn generalizing l with
  | _ n ih =>
    intro out
    cases l with
    | nil => rw [urlF]; exact .inl rfl
    | cons c t =>
      have e3 := escF_le t
      simp only [List.length_cons] at hn
      rw [urlF]
      split
      · exact .inl rfl
      · split
        · split
          · exact .inl rfl
          · split
            · exact .inl rfl
            · exact .inr rfl
        · split
          · exact .inr rfl
          · split
            · exact ih (escF t).2.1.length (by omega) _ rfl (out ++ enc (escF t).1)
            · exact ih t.length (by omega) t rfl (out ++ enc c)
theorem quotF_kind (q : Int) (l : List Int) : ∀ out, (quotF q out l).1.kind = 36 ∨ (quotF q out l).1.kind = 2 := by
  induction hn : l.length using Nat.strongRecOn generalizing l with
  | _ n ih =>
    intro out
    cases l with
    | nil => rw [quotF]; exact .inl rfl
    | cons c t =>
      have e3 := escF_le t
      have e4 := nlTake_le t
      simp only [List.length_cons] at hn
      rw [quotF]
      split
      · exact .inl rfl
      · split
        · exact .inr rfl
        · split
          · split
            · exact ih (nlTake t).length (by omega) _ rfl out
            · split
              · exact .inl rfl
              · exact ih (escF t).2.1.length (by omega) _ rfl (out ++ enc (escF t).1)
          · exact ih t.length (by omega) t rfl (out ++ enc c)
theorem signK_pos (c : Int) : 0 < signK c := by
  unfold signK
  repeat' split
  all_goals omega
theorem signK_ne (c : Int) : signK c ≠ 0 := by have := signK_pos c; omega
theorem nextF_kind {l : List Int} (h : l ≠ []) : (nextF l).1.kind ≠ 0 := by
  unfold nextF
  rw [if_neg h]
  split
  · simp
  · split
    · rcases quotF_kind (hd l) l.tail [] with e | e <;> rw [e] <;> decide
    · split
      · simp
      · split
        · unfold numF; split
          · simp
          · split <;> simp
        · split
          · simp
          · split
            · unfold namedF; split
              · split
                · rcases urlF_kind (spaceF (nameF l).2.1.tail) [] with e | e <;> simp only [e] <;> decide
                · simp
              · simp
            · split
              · simp
              · split
                · simp
                · exact signK_ne _
/-- A token's cells. -/
def tokCells (s : ByteArray) (t : Tok × List Int × List Int) : List Value :=
  [.int .i64 t.1.kind, .int .i64 (ps s t.2.1), .int .i64 (ps s t.2.2), .int .i64 t.1.unit, .bool t.1.id, .string ⟨t.1.text.toArray⟩]
def toksCells (s : ByteArray) (ts : List (Tok × List Int × List Int)) : List Value := ts.flatMap (tokCells s)
theorem toksCells_snoc (s : ByteArray) (ts : List (Tok × List Int × List Int)) (t : Tok × List Int × List Int) : toksCells s (ts ++ [t]) = toksCells s ts ++ tokCells s t := by simp [toksCells]
/-- What spec.Tokens leaves. -/
def TokPost (s : ByteArray) (l : List Int) (w : World) (e : Ending) (w' : World) : Prop :=
  ∃ v6 vC, e = .returned (.tuple #[v6, vC, .bool (toks l).2]) ∧ w'.ownsRow w.heap.size 42 6 v6 (toks l).1.length (toksCells s (toks l).1) ∧ Below w.heap.size w w'
def TK (w0 : World) (g : Nat) (s : ByteArray) (l : List Int) (k : Nat) (a : Value) (w : World) : Prop :=
  ∃ l' o' dn, l'.length = k ∧ dn ++ (toks l').1 = (toks l).1 ∧ (o' || (toks l').2) = (toks l).2 ∧ SC w0 w g s l' o' (.slice none 0 0) w0.heap.size ∧ w.ownsRow w0.heap.size 42 6 a dn.length (toksCells s dn) ∧ dn.length ≤ ps s l'
theorem SC.join {w0 w w1 : World} {g : Nat} {s : ByteArray} {l' : List Int} {o' : Bool} {v0 v : Value} {base : Nat} (hv : ∀ k, v.ownBlock = some k → k < w0.heap.size → v0.ownBlock = some k) (hK : Keep (fun k => k = g ∨ v0.ownBlock = some k) w0 w) (h : SC w w1 g s l' o' v base) : SC w0 w1 g s l' o' v0 base := by
  obtain ⟨v', n', xs', hL, hS, hs, ho, hn, hv', hK'⟩ := h
  refine ⟨v', n', xs', hL, hS, hs, ho, hn, fun k e hlt => hv k (hv' k e (Nat.lt_of_lt_of_le hlt hK.size)) hlt, hK.trans' hK' ?_⟩
  intro k hlt e
  rcases e with e | e
  · exact .inl e
  · exact .inr (hv k e hlt)
theorem own_own_ne {w : World} {b1 b2 : Nat} {e1 e2 : TypeId} {s1 s2 n1 n2 : Nat} {v1 v2 : Value} {x1 x2 : List Value} (h1 : w.ownsRow b1 e1 s1 v1 n1 x1) (h2 : w.ownsRow b2 e2 s2 v2 n2 x2) (ht : e1 ≠ e2) {k : Nat} (hk : v1.ownBlock = some k) : v2.ownBlock ≠ some k := by
  rcases h1.2 with ⟨rfl, _⟩ | ⟨j, cap, cur, rfl, _, hc, _⟩
  · cases hk
  · simp only [Value.ownBlock, Option.some.injEq] at hk
    subst hk
    exact own_ne h2 hc (fun e => ht e.symm)
theorem alloc2_new (w : World) (o o2 : Obj) : (((w.alloc o).alloc o2).drew).heap[w.heap.size + 1]? = some o2 := by
  have h := heap_alloc_new (w.alloc o) o2
  have e : (w.alloc o).heap.size = w.heap.size + 1 := by simp
  rw [e] at h
  exact h
theorem SC.after {w w1 w2 w3 : World} {s : ByteArray} {l2 : List Int} {v1 u6 : Value} {o2 : Bool} {n1 m : Nat} {xs1 cs : List Value} {ob1 ob2 : Obj} (hK : Keep (fun k => k = w.heap.size ∨ (Value.slice none 0 0).ownBlock = some k) w w1)
    (hA : SA w1 w2 w.heap.size s l2 v1 o2) (hrow : w2.ownsRow w.heap.size 95 2 v1 n1 xs1) (hn : n1 ≤ ps s l2) (hv : ∀ k, v1.ownBlock = some k → k < w.heap.size → (Value.slice none 0 0).ownBlock = some k)
    (hown : w2.ownsRow w.heap.size 42 6 u6 m cs) (hg : (((w2.alloc ob1).alloc ob2).drew).grownBy w3 u6.ownBlock) : SC w w3 w.heap.size s l2 o2 (.slice none 0 0) w.heap.size := by
  have hK2 : Keep (fun k => k = w.heap.size ∨ (Value.slice none 0 0).ownBlock = some k) w (((w2.alloc ob1).alloc ob2).drew) := (((hK.trans (hA.kp.mono (fun k _ e => .inl e))).alloc _).alloc _).drew
  have hA2 : SA w1 (((w2.alloc ob1).alloc ob2).drew) w.heap.size s l2 v1 o2 := ⟨((hA.alloc ob1).alloc ob2).sl, hA.sfx, ((hA.alloc ob1).alloc ob2).kp.drew, hA.size⟩
  have hrow2 : (((w2.alloc ob1).alloc ob2).drew).ownsRow w.heap.size 95 2 v1 n1 xs1 := ((hrow.alloc _).alloc _).drew
  have hown2 : (((w2.alloc ob1).alloc ob2).drew).ownsRow w.heap.size 42 6 u6 m cs := ((hown.alloc _).alloc _).drew
  have hKg := Keep.of_grown hg (fun k => u6.ownBlock = some k) (fun k e => e)
  have hne : u6.ownBlock ≠ some w.heap.size := own_ne hown2 hA2.sl (by decide)
  refine ⟨v1, n1, xs1, (hg.block w.heap.size hA2.lt (fun e => hne e.symm)).trans hA2.sl, hA.sfx, hA.size, hKg.own hrow2 (fun k e1 e2 => own_own_ne hown2 hrow2 (by decide) e2 e1), hn, hv, hK2.trans' hKg ?_⟩
  intro k hlt e
  rcases hown2.2 with ⟨rfl, _⟩ | ⟨j, cap, cur, rfl, hb, _⟩
  · cases e
  · simp only [Value.ownBlock, Option.some.injEq] at e
    omega
set_option maxRecDepth 100000 in
set_option maxHeartbeats 4000000 in
theorem Tokens_calls (s : ByteArray) (l : List Int) (hS : Sfx s l) (h0 : ps s l = 0) (hs : s.size ≤ 1099511627776) (w : World) :
    Calls Tryz.prog 21 #[.string s] w fun e w' => TokPost s l w e w' := by
  obtain ⟨i0, hi0, hz0, hz1, hz2⟩ := info_parts info42
  have hSC : SC w (w.alloc (.cells #[.string s, .int .i64 0, .slice none 0 0, .bool false] 67)) w.heap.size s l false (.slice none 0 0) w.heap.size := by
    refine ⟨.slice none 0 0, 0, [], ?_, hS, hs, World.ownsRow_nil _ _ _ _, Nat.zero_le _, ?_, ?_⟩
    · unfold SL; rw [h0]; exact heap_alloc_new w _
    · intro k hk; cases hk
    · exact (Keep.refl _ _).alloc _
  clear h0
  go_enter Tryz.func21, Tryz.ntmps21
  go_wp2_with fail
  go_loopg [6] l.length (fun k a wr => TK w w.heap.size s l k a wr)
  case atStart => exact ⟨l, false, [], rfl, rfl, by simp, hSC, World.ownsRow_nil _ _ _ _, Nat.zero_le _⟩
  case round =>
    obtain ⟨l', o', dn, hk, hd1, ho1, hC, hown, hdn⟩ := hrel
    have HK := Lib.hid hk
    have HD := Lib.hid hd1
    have HO := Lib.hid ho1
    clear hk hd1 ho1 hSC
    obtain ⟨v, n, xs, hL, hSf, hsz, hrow, hnle, hvk, hKeep⟩ := hC
    have hC0 : SC wr wr w.heap.size s l' o' v w.heap.size := ⟨v, n, xs, hL, hSf, hsz, hrow, hnle, fun k e _ => e, Keep.refl _ _⟩
    have HV := Lib.hid hvk
    clear hvk
    go_wp2_with fail
    refine (comment_sc hC0 hKeep.size).mono ?_
    rintro e w1 ⟨rfl, hC1⟩
    have hown1 : w1.ownsRow w.heap.size 42 6 u6 dn.length (toksCells s dn) := by
      obtain ⟨_, _, _, _, _, _, _, _, _, hK1⟩ := hC1
      refine hK1.own hown (fun k e1 e2 => ?_)
      rcases e2 with e2 | e2
      · exact own_ne hown hL (by decide) (by rw [e1, e2])
      · exact own_own_ne hown hrow (by decide) e1 e2
    have hJ := SC.join HV.out hKeep hC1
    obtain ⟨v1, n1, xs1, hL1, hSf1, hsz1, hrow1, hnle1, hvk1, hKeep1⟩ := hJ
    have HV1 := Lib.hid hvk1
    have c1 := hL1.c1
    clear hvk1
    obtain ⟨l1, hl1⟩ : ∃ x, (cmtsF l').1 = x := ⟨_, rfl⟩
    obtain ⟨o1, ho1⟩ : ∃ x, (o' || (cmtsF l').2) = x := ⟨_, rfl⟩
    rw [hl1] at hL1 hSf1 hnle1 c1
    rw [ho1] at hL1
    have HL1 := Lib.hid hl1
    have HO1 := Lib.hid ho1
    clear hl1 ho1
    have hA1 : SA w1 w1 w.heap.size s l1 v1 o1 := ⟨hL1, hSf1, Keep.refl _ _, hsz1⟩
    go_wp2_with fail
    refine (next_sa hA1).mono ?_
    rintro e w2 ⟨rfl, hA2⟩
    have hown2 := hA2.kp.own hown1 (fun k e1 e2 => own_ne hown1 hL1 (by decide) (by rw [e1, e2]))
    have hrow2 := hA2.kp.own hrow1 (fun k e1 e2 => own_ne hrow1 hL1 (by decide) (by rw [e1, e2]))
    obtain ⟨U, hU⟩ : ∃ x, (nextF l1).1 = x := ⟨_, rfl⟩
    obtain ⟨l2, hl2⟩ : ∃ x, (nextF l1).2.1 = x := ⟨_, rfl⟩
    obtain ⟨o2, ho2⟩ : ∃ x, (o1 || (nextF l1).2.2) = x := ⟨_, rfl⟩
    rw [hl2, ho2] at hA2
    rw [hU]
    have HU := Lib.hid hU
    have HL2 := Lib.hid hl2
    have HO2 := Lib.hid ho2
    clear hU hl2 ho2
    unfold tokV
    have c1' := hA2.sl.c1
    have c2' := hA2.sl.c2
    have c3' := hA2.sl.c3
    have lt2 := hA2.lt
    by_cases hn : l1 = []
    · have hk0 : (U.kind == 0) = true := by have := HU.out; rw [hn, show (nextF []).1 = { kind := 0 } from rfl] at this; rw [← this]; rfl
      have HN := Lib.hid hn
      clear hn
      go_wp2_with (fail)
      go_quiet (fail)
      go_wp2_with fail
      refine bodyPost_ret (v := .tuple #[u6, v1, .bool o2]) (by simp [results, Tryz.results21, go_sem]) rfl ⟨u6, v1, ?_, ?_, ?_⟩
      · have ht := toks_nil (l := l') (by rw [HL1.out]; exact HN.out)
        have ho2 := HO2.out
        rw [HN.out, show (nextF []).2.2 = false from rfl, Bool.or_false] at ho2
        rw [← HO.out, ht, HO1.out, ho2]
      · have ht := toks_nil (l := l') (by rw [HL1.out]; exact HN.out)
        rw [← HD.out, ht, List.append_nil]
        exact (hown2.alloc _).drew
      · exact ((((hKeep1.trans (hA2.kp.mono (fun k _ e => .inl e))).alloc _).drewN _).below (Nat.le_refl _) (fun k hlt e => by
          rcases e with e | e
          · omega
          · cases e))
    · have hk0 : (U.kind == 0) = false := by have := nextF_kind hn; rw [HU.out] at this; simpa using this
      have hps1 := ps_suf (hSf.suf (cmtsF_suf l')) (by rw [HL1.out]; exact nextF_suf l1)
      have hps0 := ps_suf hSf (cmtsF_suf l')
      have hps3 := nextF_lt hn
      rw [HL1.out, HL2.out] at hps1
      rw [HL1.out] at hps0
      rw [HL2.out] at hps3
      have hpsn := ps_le s l2
      have hdn1 : dn.length + 1 ≤ ps s l2 := by omega
      have HNX := Lib.hid hdn1
      have HN1 : Hid (n1 ≤ ps s l2) := Lib.hid (by omega)
      have hdnb : dn.length + 1 ≤ 1099511627776 := by omega
      have HBL : Hid ((((w2.alloc (.cells (tokCells s (U, l1, l2)).toArray 42)).alloc (.cells (tokCells s (U, l1, l2)).toArray 42)).drew).heap[w2.heap.size + 1]? = some (.cells (tokCells s (U, l1, l2)).toArray 42 (0, 0))) :=
        Lib.hid (alloc2_new _ _ _)
      have HN := Lib.hid hn
      have HLT := Lib.hid hps3
      clear hn hps1 hps0 hpsn hdn1 hps3
      have hbs : w.heap.size ≤ w2.heap.size := by have := hKeep1.size; have := hA2.kp.size; omega
      go_wp2_with fail
      go_region
      all_goals (go_wp2_with (first
        | (at_builtin; go_loud (refine wpList_append_lies _ rfl _ _ 38 rfl w.heap.size 42 i0 _ 6 56 Tryz.underlying38 hi0 hz0 hz1 hz2 rfl (by omega) u6 dn.length (toksCells s dn) rfl (((hown2.alloc _).alloc _).drew) ⟨w2.heap.size + 1, 0, none⟩ 1 1 (tokCells s (U, l1, l2)) rfl rfl (World.news_of_block (cs := (tokCells s (U, l1, l2)).toArray) (t := 42) (fr := (0, 0)) HBL.out) (by simp [tokCells, Value.oneCell']) (by omega) (by unfold maxLen; omega) (by omega) (by simp; omega) (w2.heap.size + 2) (by simp) ?_); intro gg cap w3 hown3 hgrow hat hlt))
       )
      all_goals
        go_roundg l2.length
        case measure =>
          have h1 := HK.out
          have h2 := cmtsF_le l'
          have h3 := HLT.out
          rw [HL1.out] at h2
          omega
        case rel =>
          have hne : (cmtsF l').1 ≠ [] := by rw [HL1.out]; exact HN.out
          have hc := toks_cons hne
          rw [HL1.out, HU.out, HL2.out] at hc
          refine ⟨l2, o2, dn ++ [(U, l1, l2)], rfl, ?_, ?_, SC.after hKeep1 hA2 hrow2 HN1.out HV1.out hown2 hgrow, ?_, ?_⟩
          · rw [← HD.out, hc]; simp
          · rw [← HO.out, hc, ← HO2.out, ← HO1.out]; simp [Bool.or_assoc]
          · rw [toksCells_snoc, List.length_append, List.length_singleton]; exact hown3
          · rw [List.length_append, List.length_singleton]; exact HNX.out
end Go.Proofs.YtedckphklebndaaGreatDoor
/- The reference's IsPlain and the laws' whole, walked. What they say of a text: it is the list of its code points. Condition: a text of at most 2^47 bytes. -/
namespace Go.Proofs.YtedckphklebndaaGreatDoor
open Go Go.RowKit
/-- What stands in a plain text at a place. -/
theorem rAt_rune {s : ByteArray} {i : Nat} (hi : i < s.size) (h2 : (rAt s i).1 ≠ -2) (h0 : (rAt s i).1 ≠ 0) :
    ∃ c, Rn c ∧ rAt s i = (c, (wd c : Int)) ∧ s.data.toList.drop i = enc c ++ s.data.toList.drop (i + wd c) := by
  have hd := Lib.decodeL_drop s i
  have hl : (s.data.toList.drop i) ≠ [] := by
    intro e
    have := congrArg List.length e
    rw [List.length_drop, List.length_nil] at this
    have hz : s.data.toList.length = s.size := by simp
    omega
  by_cases hv : Utf8.decode s i = (65533, 1)
  · refine absurd ?_ h2
    unfold rAt
    rw [if_neg (by omega), if_pos hv]
  · have hr : rAt s i = (((Utf8.decode s i).1 : Int), ((Utf8.decode s i).2 : Int)) := by
      unfold rAt
      rw [if_neg (by omega), if_neg hv]
    rw [hr] at h0
    have he := Lib.encode_decode _ hl (by rw [hd]; intro e; exact hv (Prod.ext e.1 e.2))
    rw [hd] at he
    have hw := Lib.decodeL_le _ hl
    rw [hd] at hw
    have hwd : wd ((Utf8.decode s i).1 : Int) = (Utf8.decode s i).2 := by
      unfold wd enc
      rw [he, List.length_take]
      omega
    refine ⟨(Utf8.decode s i).1, ?_, by rw [hr, hwd], ?_⟩
    · simp only at h0
      rw [Lib.decode_at] at h0 ⊢
      have k0 := (s.get! i).toNat_lt
      have k1 := (s.get! (i + 1)).toNat_lt
      have k2 := (s.get! (i + 2)).toNat_lt
      have k3 := (s.get! (i + 3)).toNat_lt
      unfold Rn
      rcases Lib.decodeN_shape (s.size - i) (s.get! i).toNat (s.get! (i + 1)).toNat (s.get! (i + 2)).toNat (s.get! (i + 3)).toNat with ⟨c, e⟩ | ⟨c1, c2, c3, cv, e⟩ | ⟨c1, c2, c3, c4, cv, cs, e⟩ | ⟨c1, c2, c3, c4, c5, cv, cw, e⟩ | e
      all_goals
        rw [e] at h0 ⊢
        simp only at h0 ⊢
        omega
    · have e1 : enc ((Utf8.decode s i).1 : Int) = (s.data.toList.drop i).take (Utf8.decode s i).2 := he
      rw [e1, hwd, ← List.drop_drop]
      exact (List.take_append_drop _ _).symm
/-- A text of which so many bytes have been read. -/
def Rd (s : ByteArray) (i : Nat) : Prop := ∃ a, RnAll a ∧ s.data.toList.take i = encs a ∧ i ≤ s.size ∧ (hd a ≠ 65279)
theorem Rd.step {s : ByteArray} {i : Nat} (h : Rd s i) {c : Int} (hc : Rn c) (e : s.data.toList.drop i = enc c ++ s.data.toList.drop (i + wd c)) (hi : i < s.size) (hb : i = 0 → c ≠ 65279) : Rd s (i + wd c) := by
  obtain ⟨a, ha, he, hle, hh⟩ := h
  have hz : s.data.toList.length = s.size := by simp
  have hlen := congrArg List.length e
  rw [List.length_append, List.length_drop, List.length_drop] at hlen
  have hw := wd_pos c
  have hwe : (enc c).length = wd c := rfl
  refine ⟨a ++ [c], ha.append (RnAll.cons hc RnAll.nil), ?_, by omega, ?_⟩
  · rw [List.take_add, he, e, ← hwe, List.take_left', encs_append]
    · simp [encs]
    · rfl
  · cases a with
    | nil =>
      simp only [encs] at he
      have h1 := congrArg List.length he
      rw [List.length_take, List.length_nil] at h1
      simpa using hb (by omega)
    | cons x t => simpa using hh
theorem Rd.full {s : ByteArray} {i : Nat} (h : Rd s i) (hi : s.size ≤ i) : ∃ l, Sfx s l ∧ ps s l = 0 ∧ hd l ≠ 65279 := by
  obtain ⟨a, ha, he, hle, hh⟩ := h
  have hz : s.data.toList.length = s.size := by simp
  rw [List.take_of_length_le (by omega)] at he
  refine ⟨a, ⟨⟨[], he⟩, ha⟩, ?_, hh⟩
  unfold ps
  rw [← he]
  omega
set_option maxRecDepth 100000 in
set_option maxHeartbeats 2000000 in
theorem IsPlain_calls (s : ByteArray) (hs : s.size ≤ 140737488355328) (w : World) :
    Calls Tryz.prog 17 #[.string s] w fun e w' => ∃ b : Bool, e = .returned (.bool b) ∧ (b = true → ∃ l, Sfx s l ∧ ps s l = 0 ∧ hd l ≠ 65279) ∧ w = w' := by
  go_enter Tryz.func17, Tryz.ntmps17
  go_wp2_with fail
  go_loopg [3] s.size (fun k a wr => ∃ i, a = .int .i64 (i : Nat) ∧ k = s.size - i ∧ i ≤ s.size ∧ Rd s i ∧ wr = w)
  case atStart => exact ⟨0, rfl, rfl, Nat.zero_le _, ⟨[], RnAll.nil, by simp [encs], Nat.zero_le _, by decide⟩, rfl⟩
  case round =>
    obtain ⟨i, hia, hk, hle, hrd, hw⟩ := hrel
    subst hia hw
    have HK := Lib.hid hk
    have HR := Lib.hid hrd
    clear hk hrd
    by_cases hi : i < s.size
    · have HX := Lib.hid (fun h2 h0 => rAt_rune hi h2 h0)
      obtain ⟨⟨c, n⟩, hr⟩ : ∃ x, rAt s i = x := ⟨_, rfl⟩
      have hcall := runeAt_calls s i wr (by omega)
      rw [hr] at hcall HX
      clear hr
      by_cases hbad : c = -2 ∨ c = 0 ∨ (i = 0 ∧ c = 65279)
      · have hb : ((c == -2) = true) ∨ ((c == -2) = false ∧ (c == 0) = true) ∨ ((c == -2) = false ∧ (c == 0) = false ∧ i = 0 ∧ (c == 65279) = true) := by
          by_cases q1 : c = -2
          · left; simp [q1]
          · by_cases q2 : c = 0
            · right; left; simp [q2]
            · rcases hbad with e | e | e
              · exact absurd e q1
              · exact absurd e q2
              · right; right; simp [e.1, e.2]
        clear hbad
        rcases hb with b1 | ⟨b1, b2⟩ | ⟨b1, b2, b3, b4⟩
        all_goals
          (try subst b3)
          go_wp2_with (go_at_call 27; refine hcall.mono ?_; rintro e w' ⟨rfl, rfl⟩)
          go_ret
          exact ⟨false, rfl, (fun h => by cases h), rfl⟩
      · have b1 : (c == -2) = false := by simp only [beq_eq_false_iff_ne]; exact fun e => hbad (.inl e)
        have b2 : (c == 0) = false := by simp only [beq_eq_false_iff_ne]; exact fun e => hbad (.inr (.inl e))
        have hb : ((i : Int) == 0) = false ∨ (((i : Int) == 0) = true ∧ (c == 65279) = false) := by
          by_cases q : i = 0
          · right; refine ⟨by simp [q], ?_⟩
            simp only [beq_eq_false_iff_ne]; exact fun e => hbad (.inr (.inr ⟨q, e⟩))
          · left; simp only [beq_eq_false_iff_ne]; omega
        have HB := Lib.hid hbad
        obtain ⟨c', hc', hcc, hdr⟩ := HX.out (fun e => hbad (.inl e)) (fun e => hbad (.inr (.inl e)))
        obtain ⟨rfl, rfl⟩ : c = c' ∧ n = (wd c' : Int) := by injection hcc with e1 e2; exact ⟨e1, e2⟩
        have hw := wd_pos c
        have HD := Lib.hid hdr
        have HC := Lib.hid hc'
        clear hbad hcc hdr hc' HX
        rcases hb with b3 | ⟨b3, b4⟩
        all_goals
          go_wp2_with (go_at_call 27; refine hcall.mono ?_; rintro e w' ⟨rfl, rfl⟩)
          go_roundg (s.size - (i + wd c))
          case measure => have := HK.out; omega
          case rel =>
            refine ⟨i + wd c, by simp, rfl, ?_, HR.out.step HC.out HD.out hi (fun e0 e1 => HB.out (.inr (.inr ⟨e0, e1⟩))), rfl⟩
            have hlen := congrArg List.length HD.out
            have hz : s.data.toList.length = s.size := by simp
            have hwe : (enc c).length = wd c := rfl
            rw [List.length_append, List.length_drop, List.length_drop] at hlen
            omega
    · have HF := Lib.hid (HR.out.full (by omega))
      go_wp2_with fail
      go_ret
      exact ⟨true, rfl, fun _ => HF.out, rfl⟩
/-- What the laws ask of a text. -/
def Wh (s : ByteArray) (l : List Int) : Prop := Sfx s l ∧ ps s l = 0 ∧ hd l ≠ 65279 ∧ (toks l).2 = false ∧ s.size ≤ 32768
set_option maxRecDepth 100000 in
set_option maxHeartbeats 2000000 in
theorem whole_calls (s : ByteArray) (hs : s.size ≤ 140737488355328) (w : World) :
    Calls Tryz.prog 9 #[.string s] w fun e w' => ∃ b : Bool, e = .returned (.bool b) ∧ (b = true → ∃ l, Wh s l) ∧ KeepA w w' := by
  by_cases hb : s.size ≤ 32768
  · go_enter Tryz.func9, Tryz.ntmps9
    go_wp2_with fail
    refine (IsPlain_calls s hs _).mono ?_
    rintro e w1 ⟨b, rfl, hb1, rfl⟩
    cases b with
    | false =>
      go_wp2_with fail
      go_ret
      exact ⟨false, rfl, (fun h => by cases h), Keep.refl _ _⟩
    | true =>
      obtain ⟨l, hS, h0, hB⟩ := hb1 rfl
      have H0 := Lib.hid h0
      have HB := Lib.hid hB
      clear hb1 h0 hB
      go_wp2_with fail
      refine (Tokens_calls s l hS H0.out (by omega) _).mono ?_
      rintro e w2 ⟨v6, vC, rfl, _, hbel⟩
      go_wp2_with fail
      go_ret
      refine ⟨!(toks l).2, rfl, fun h => ⟨l, hS, H0.out, HB.out, by simpa using h, hb⟩, Keep.of_below hbel _⟩
  · go_enter Tryz.func9, Tryz.ntmps9
    go_wp2_with fail
    go_ret
    exact .inl ⟨rfl, Keep.refl _ _⟩
end Go.Proofs.YtedckphklebndaaGreatDoor
/- The reference's lexer over lists of code points: what a comment (or nothing) behind a text that is not left open changes: nothing. No condition; no program in sight. -/
namespace Go.Proofs.YtedckphklebndaaGreatDoor
open Go
/-- Nothing, or the beginning of a comment. -/
def CH (x : List Int) : Prop := x = [] ∨ ∃ y, x = 47 :: 42 :: y
theorem hd_app (l x : List Int) : hd (l ++ x) = if l = [] then hd x else hd l := by
  cases l with
  | nil => simp
  | cons c t => simp
theorem CH.hd {x : List Int} (h : CH x) : hd x = -1 ∨ hd x = 47 := by
  rcases h with rfl | ⟨y, rfl⟩
  · exact .inl rfl
  · exact .inr rfl
theorem ext_p {x : List Int} (h : CH x) (p : Int → Bool) (hp : p 47 = p (-1)) (l : List Int) : p (hd (l ++ x)) = p (hd l) := by
  rw [hd_app]
  split
  · rename_i e
    subst e
    rcases h.hd with e | e <;> rw [e]
    · rfl
    · exact hp
  · rfl
theorem ext_ne {x : List Int} (h : CH x) {n : Int} (h1 : n ≠ -1) (h2 : n ≠ 47) (l : List Int) : (hd (l ++ x) = n) ↔ (hd l = n) := by
  have := ext_p h (fun c => c == n) (by rw [beq_eq_false_iff_ne.2 (fun e => h2 e.symm), beq_eq_false_iff_ne.2 (fun e => h1 e.symm)]) l
  rw [Bool.eq_iff_iff, beq_iff_eq, beq_iff_eq] at this
  exact this
theorem ext_ne_nil {x : List Int} {l : List Int} (h : l ≠ []) : hd (l ++ x) = hd l := by rw [hd_app, if_neg h]
theorem drop_ext {x : List Int} (h : CH x) (p : Int → Bool) (h0 : p 47 = false) (l : List Int) : (l ++ x).dropWhile p = l.dropWhile p ++ x := by
  induction l with
  | nil =>
    rcases h with rfl | ⟨y, rfl⟩
    · rfl
    · simp [h0]
  | cons c t ih =>
    simp only [List.cons_append, List.dropWhile_cons]
    split
    · exact ih
    · rfl
theorem spaceF_ext {x : List Int} (h : CH x) (l : List Int) : spaceF (l ++ x) = spaceF l ++ x := drop_ext h _ (by decide) l
theorem digitF_ext {x : List Int} (h : CH x) (l : List Int) : digitF (l ++ x) = digitF l ++ x := drop_ext h _ (by decide) l
theorem escs_ext {x : List Int} (h : CH x) (c : Int) (l : List Int) : escs c (hd (l ++ x)) = escs c (hd l) := by
  unfold escs
  rw [ext_p h isNL (by decide) l]
theorem nlTake_ext {x : List Int} (h : CH x) {l : List Int} (hl : l ≠ []) : nlTake (l ++ x) = nlTake l ++ x := by
  cases l with
  | nil => exact absurd rfl hl
  | cons c t =>
    simp only [List.cons_append, nlTake]
    simp only [ext_ne h (n := 10) (by decide) (by decide) t]
    split
    · rename_i e
      cases t with
      | nil => simp at e
      | cons d t => rfl
    · rfl
theorem hexs_ext {x : List Int} (h : CH x) (n : Nat) : ∀ (v : Int) (l : List Int), hexs n v (l ++ x) = ((hexs n v l).1, (hexs n v l).2 ++ x) := by
  induction n with
  | zero => intro v l; rfl
  | succ n ih =>
    intro v l
    cases l with
    | nil =>
      rcases h with rfl | ⟨y, rfl⟩
      · rfl
      · simp [hexs, hexv]
    | cons c t =>
      simp only [List.cons_append, hexs]
      split
      · exact ih _ t
      · rfl
theorem escRest_ext {x : List Int} (h : CH x) (l : List Int) : escRest (l ++ x) = escRest l ++ x := by
  unfold escRest
  rw [ext_p h isNL (by decide) l, ext_p h isSp (by decide) l]
  split
  · rename_i e
    exact nlTake_ext h (by rintro rfl; simp [isNL] at e)
  · split
    · rename_i e
      cases l with
      | nil => simp [isSp, isNL] at e
      | cons c t => rfl
    · rfl
theorem escF_ext {x : List Int} (h : CH x) {l : List Int} (hl : (escF l).2.2 = false) : escF (l ++ x) = ((escF l).1, (escF l).2.1 ++ x, false) := by
  cases l with
  | nil => cases hl
  | cons c t =>
    have e := hexs_ext h 6 0 (c :: t)
    simp only [List.cons_append, escF] at hl e ⊢
    split
    · rename_i e1; rfl
    · rename_i e1
      rw [if_neg e1] at hl
      rw [e]
      simp only at hl ⊢
      rw [escRest_ext h, ext_p h isNL (by decide), hl]
theorem nameF_ext {x : List Int} (h : CH x) (l : List Int) (hl : (nameF l).2.2 = false) : nameF (l ++ x) = ((nameF l).1, (nameF l).2.1 ++ x, false) := by
  induction hn : l.length using Nat.strongRecOn generalizing l with
  | _ n ih =>
    cases l with
    | nil =>
      have e0 : nameF [] = ([], [], false) := by rw [nameF]
      rw [e0]
      rcases h with rfl | ⟨y, rfl⟩
      · exact e0
      · rw [List.nil_append, nameF, if_neg (by decide), if_neg (by simp [escs])]
    | cons c t =>
      have e3 := escF_le t
      simp only [List.length_cons] at hn
      rw [nameF] at hl ⊢
      rw [List.cons_append, nameF, escs_ext h]
      by_cases hc : cont c = true
      · rw [if_pos hc] at hl ⊢
        rw [if_pos hc, ih t.length (by omega) t hl rfl]
      · rw [if_neg hc] at hl ⊢
        rw [if_neg hc]
        by_cases he : escs c (hd t) = true
        · rw [if_pos he] at hl ⊢
          rw [if_pos he]
          simp only [Bool.or_eq_false_iff] at hl
          rw [escF_ext h hl.1]
          simp only
          rw [ih (escF t).2.1.length (by omega) _ hl.2 rfl, Bool.false_or]
        · rw [if_neg he] at hl ⊢
          rw [if_neg he]; rfl
theorem idnt_ext {x : List Int} (h : CH x) (l : List Int) : idnt (pk (l ++ x) 0) (pk (l ++ x) 1) (pk (l ++ x) 2) = idnt (pk l 0) (pk l 1) (pk l 2) := by
  rcases h with rfl | ⟨y, rfl⟩
  · rw [List.append_nil]
  · rcases l with _ | ⟨a, _ | ⟨b, _ | ⟨c, l⟩⟩⟩
    · simp [pk, idnt, strt, escs]
    · by_cases e : a = 45 <;> simp [pk, idnt, strt, escs, isNL, e]
    · by_cases e : a = 45 <;> simp [pk, idnt, strt, escs, isNL, e]
    · simp [pk]
theorem cnts_ext {x : List Int} (h : CH x) (l : List Int) : cnts (pk (l ++ x) 0) (pk (l ++ x) 1) (pk (l ++ x) 2) = cnts (pk l 0) (pk l 1) (pk l 2) := by
  rcases h with rfl | ⟨y, rfl⟩
  · rw [List.append_nil]
  · rcases l with _ | ⟨a, _ | ⟨b, _ | ⟨c, l⟩⟩⟩
    · simp [pk, cnts, isDg]
    · by_cases e : a = 43 ∨ a = 45 <;> simp [pk, cnts, isDg, e]
    · by_cases e : a = 43 ∨ a = 45 <;> simp [pk, cnts, isDg, e]
    · simp [pk]
theorem expo_ext {x : List Int} (h : CH x) (l : List Int) : expo (l ++ x) = expo l := by
  rcases h with rfl | ⟨y, rfl⟩
  · rw [List.append_nil]
  · rcases l with _ | ⟨a, _ | ⟨b, _ | ⟨c, l⟩⟩⟩
    · simp [expo]
    · simp [pk, expo, isDg]
    · simp [pk, expo, isDg]
    · simp [pk, expo]
theorem expo_len {l : List Int} (h : expo l = true) : 2 ≤ l.length := by
  rcases l with _ | ⟨a, _ | ⟨b, l⟩⟩
  · simp [expo] at h
  · simp [pk, expo, isDg] at h
  · simp
theorem dot_ext {x : List Int} (h : CH x) (l : List Int) : (hd (l ++ x) = 46 ↔ hd l = 46) ∧ (hd l = 46 → isDg (pk (l ++ x) 1) = isDg (pk l 1)) := by
  refine ⟨ext_ne h (by decide) (by decide) l, fun e => ?_⟩
  cases l with
  | nil => simp at e
  | cons c t => simp only [List.cons_append, pk_cons, pk_zero]; exact ext_p h isDg (by decide) t
theorem num1_ext {x : List Int} (h : CH x) (l : List Int) : num1 (l ++ x) = num1 l ++ x := by
  unfold num1
  simp only [ext_ne h (n := 43) (by decide) (by decide), ext_ne h (n := 45) (by decide) (by decide)]
  split
  · rename_i e
    cases l with
    | nil => simp at e
    | cons c t => rfl
  · rfl
theorem num2_ext {x : List Int} (h : CH x) (l : List Int) : num2 (l ++ x) = num2 l ++ x := by
  unfold num2
  rw [num1_ext h, digitF_ext h]
theorem num3_ext {x : List Int} (h : CH x) (l : List Int) : num3 (l ++ x) = num3 l ++ x := by
  unfold num3
  rw [num2_ext h]
  obtain ⟨d1, d2⟩ := dot_ext h (num2 l)
  by_cases e : hd (num2 l) = 46
  · simp only [d1, d2 e]
    split
    · rw [← digitF_ext h]
      cases hh : num2 l with
      | nil => rw [hh] at e; simp at e
      | cons c t => rfl
    · rfl
  · rw [if_neg (fun q => e (d1.1 q.1)), if_neg (fun q => e q.1)]
theorem num4_ext {x : List Int} (h : CH x) (l : List Int) : num4 (l ++ x) = num4 l ++ x := by
  unfold num4
  rw [num3_ext h, expo_ext h]
  split
  · rename_i e
    have := expo_len e
    rw [← digitF_ext h, List.drop_append_of_le_length this]
  · rfl
theorem numO_ext {x : List Int} (h : CH x) (l : List Int) : numO (l ++ x) = numO l := by
  unfold numO
  rw [num2_ext h]
  obtain ⟨d1, d2⟩ := dot_ext h (num2 l)
  by_cases e : hd (num2 l) = 46
  · rw [d2 e, d1.2 e, e]
  · rw [beq_eq_false_iff_ne.2 e, beq_eq_false_iff_ne.2 (fun q => e (d1.1 q))]; simp
theorem numF_ext {x : List Int} (h : CH x) (l : List Int) (hl : (numF l).2.2 = false) : numF (l ++ x) = ((numF l).1, (numF l).2.1 ++ x, false) := by
  unfold numF at hl ⊢
  simp only [num4_ext h, idnt_ext h, numO_ext h, ext_ne h (n := 37) (by decide) (by decide)]
  split
  · rename_i e
    rw [if_pos e] at hl
    simp only [Bool.or_eq_false_iff] at hl
    rw [nameF_ext h _ hl.2, hl.1]
    simp only [Bool.or_false, Prod.mk.injEq, and_true]
    congr 1
    rw [encs_append, encs_append, List.length_append, List.length_append]
    omega
  · rename_i e
    rw [if_neg e] at hl
    split
    · rename_i e2
      rw [if_pos e2] at hl
      simp only at hl
      rw [hl]
      cases hh : num4 l with
      | nil => rw [hh] at e2; simp at e2
      | cons c t => rfl
    · rename_i e2
      rw [if_neg e2] at hl
      simp only at hl
      rw [hl]
theorem badF_ext {x : List Int} (h : CH x) (l : List Int) (hl : (badF l).2 = false) : badF (l ++ x) = ((badF l).1 ++ x, false) := by
  induction hn : l.length using Nat.strongRecOn generalizing l with
  | _ n ih =>
    cases l with
    | nil => rw [badF] at hl; cases hl
    | cons c t =>
      simp only [List.length_cons] at hn
      rw [badF] at hl ⊢
      rw [List.cons_append, badF, escs_ext h]
      by_cases h1 : c = 41
      · rw [if_pos h1] at hl ⊢; rw [if_pos h1]
      · rw [if_neg h1] at hl ⊢
        rw [if_neg h1]
        by_cases h2 : escs c (hd t) = true
        · rw [if_pos h2] at hl; cases hl
        · rw [if_neg h2] at hl ⊢
          rw [if_neg h2]
          exact ih t.length (by omega) t hl rfl
theorem urlF_ext {x : List Int} (h : CH x) (l : List Int) : ∀ out, (urlF out l).2.2 = false → urlF out (l ++ x) = ((urlF out l).1, (urlF out l).2.1 ++ x, false) := by
  induction hn : l.length using Nat.strongRecOn generalizing l with
  | _ n ih =>
    intro out hl
    cases l with
    | nil => rw [urlF] at hl; cases hl
    | cons c t =>
      have e3 := escF_le t
      simp only [List.length_cons] at hn
      rw [urlF] at hl ⊢
      rw [List.cons_append, urlF]
      by_cases h1 : c = 41
      · rw [if_pos h1] at hl ⊢; rw [if_pos h1]
      · rw [if_neg h1] at hl ⊢
        rw [if_neg h1]
        by_cases h2 : isSp c = true
        · rw [if_pos h2] at hl ⊢
          rw [if_pos h2, spaceF_ext h]
          by_cases h3 : spaceF t = []
          · rw [if_pos h3] at hl; cases hl
          · rw [if_neg h3] at hl ⊢
            rw [if_neg (fun e => h3 (List.append_eq_nil_iff.1 e).1), ext_ne_nil h3]
            by_cases h4 : hd (spaceF t) = 41
            · rw [if_pos h4] at hl ⊢
              rw [if_pos h4]
              cases hh : spaceF t with
              | nil => exact absurd hh h3
              | cons c t => rfl
            · rw [if_neg h4] at hl ⊢
              rw [if_neg h4, badF_ext h _ hl]
        · rw [if_neg h2] at hl ⊢
          rw [if_neg h2, ext_p h isNL (by decide)]
          by_cases h3 : c = 34 ∨ c = 39 ∨ c = 40 ∨ unpr c = true ∨ (c = 92 ∧ isNL (hd t) = true)
          · rw [if_pos h3] at hl ⊢
            rw [if_pos h3, ← List.cons_append, badF_ext h _ hl]
          · rw [if_neg h3] at hl ⊢
            rw [if_neg h3]
            by_cases h4 : c = 92
            · rw [if_pos h4] at hl ⊢
              rw [if_pos h4]
              simp only [Bool.or_eq_false_iff] at hl
              rw [escF_ext h hl.1]
              simp only
              rw [ih (escF t).2.1.length (by omega) _ rfl _ hl.2, Bool.false_or]
            · rw [if_neg h4] at hl ⊢
              rw [if_neg h4]
              exact ih t.length (by omega) t rfl _ hl
theorem urlF_nil (out : List UInt8) : urlF out [] = ({ kind := 37, text := out }, [], true) := by rw [urlF]
theorem namedF_ext {x : List Int} (h : CH x) (l : List Int) (hl : (namedF l).2.2 = false) : namedF (l ++ x) = ((namedF l).1, (namedF l).2.1 ++ x, false) := by
  have hno : (nameF l).2.2 = false := by
    unfold namedF at hl
    split at hl
    · split at hl
      · simp only [Bool.or_eq_false_iff] at hl; exact hl.1.1.1
      · exact hl
    · exact hl
  unfold namedF at hl ⊢
  rw [nameF_ext h l hno]
  simp only [ext_ne h (n := 40) (by decide) (by decide)]
  by_cases h1 : hd (nameF l).2.1 = 40
  · rw [if_pos h1] at hl ⊢
    rw [if_pos h1]
    have ht : ((nameF l).2.1 ++ x).tail = (nameF l).2.1.tail ++ x := by
      cases hh : (nameF l).2.1 with
      | nil => rw [hh] at h1; simp at h1
      | cons c t => rfl
    simp only [ht, spaceF_ext h, ne_eq, ext_ne h (n := 34) (by decide) (by decide), ext_ne h (n := 39) (by decide) (by decide)]
    split
    · rename_i h2
      rw [if_pos h2] at hl
      simp only [Bool.or_eq_false_iff] at hl
      rw [urlF_ext h _ _ hl.1.1.2]
      simp only [Prod.mk.injEq, true_and, Bool.false_or, Bool.or_eq_false_iff]
      refine ⟨?_, hl.2⟩
      rw [← hl.1.2]
      congr 1
      rw [encs_append, encs_append, List.length_append, List.length_append, Bool.eq_iff_iff, beq_iff_eq, beq_iff_eq]
      omega
    · rename_i h2
      rw [if_neg h2] at hl
  · rw [if_neg h1] at hl ⊢
    rw [if_neg h1]
theorem quotF_ext {x : List Int} (h : CH x) (q : Int) (l : List Int) : ∀ out, (quotF q out l).2.2 = false → quotF q out (l ++ x) = ((quotF q out l).1, (quotF q out l).2.1 ++ x, false) := by
  induction hn : l.length using Nat.strongRecOn generalizing l with
  | _ n ih =>
    intro out hl
    cases l with
    | nil => rw [quotF] at hl; cases hl
    | cons c t =>
      have e3 := escF_le t
      have e4 := nlTake_le t
      simp only [List.length_cons] at hn
      rw [quotF] at hl ⊢
      rw [List.cons_append, quotF]
      by_cases h1 : c = q
      · rw [if_pos h1] at hl ⊢; rw [if_pos h1]
      · rw [if_neg h1] at hl ⊢
        rw [if_neg h1]
        by_cases h2 : isNL c = true
        · rw [if_pos h2] at hl ⊢; rw [if_pos h2]; rfl
        · rw [if_neg h2] at hl ⊢
          rw [if_neg h2]
          by_cases h3 : c = 92
          · rw [if_pos h3] at hl ⊢
            rw [if_pos h3, ext_p h isNL (by decide)]
            by_cases h4 : isNL (hd t) = true
            · rw [if_pos h4] at hl ⊢
              rw [if_pos h4, nlTake_ext h (by rintro rfl; simp [isNL] at h4)]
              exact ih (nlTake t).length (by omega) _ rfl _ hl
            · rw [if_neg h4] at hl ⊢
              rw [if_neg h4]
              by_cases h5 : t = []
              · rw [if_pos h5] at hl; cases hl
              · rw [if_neg h5] at hl ⊢
                rw [if_neg (fun e => h5 (List.append_eq_nil_iff.1 e).1)]
                simp only [Bool.or_eq_false_iff] at hl
                rw [escF_ext h hl.1]
                simp only
                rw [ih (escF t).2.1.length (by omega) _ rfl _ hl.2, Bool.false_or]
          · rw [if_neg h3] at hl ⊢
            rw [if_neg h3]
            exact ih t.length (by omega) t rfl _ hl
theorem closeF_ext {x l r : List Int} (h : closeF l = some r) : closeF (l ++ x) = some (r ++ x) := by
  induction l with
  | nil => simp [closeF] at h
  | cons c t ih =>
    unfold closeF at h
    rw [List.cons_append, closeF]
    split at h
    · rename_i e
      injection h with h
      subst h
      cases t with
      | nil => simp at e
      | cons d t => rw [if_pos (by simpa using e)]; rfl
    · rename_i e
      have hne : t ≠ [] := by rintro rfl; simp [closeF] at h
      rw [if_neg (by rw [ext_ne_nil hne]; exact e)]
      exact ih h
theorem cmtsF_some {l r : List Int} (h1 : hd l = 47 ∧ pk l 1 = 42) (h : closeF (l.drop 2) = some r) : cmtsF l = cmtsF r := by
  rw [cmtsF, if_pos h1]
  split
  · rename_i r' e; rw [h] at e; injection e with e; rw [e]
  · rename_i e; rw [h] at e; cases e
theorem cmtsF_none {l : List Int} (h1 : hd l = 47 ∧ pk l 1 = 42) (h : closeF (l.drop 2) = none) : cmtsF l = ([], true) := by
  rw [cmtsF, if_pos h1]
  split
  · rename_i r' e; rw [h] at e; cases e
  · rfl
theorem cmtsF_stop {l : List Int} (h1 : ¬ (hd l = 47 ∧ pk l 1 = 42)) : cmtsF l = (l, false) := by rw [cmtsF, if_neg h1]
theorem cmtsF_ext {x : List Int} (h : CH x) (l : List Int) (hl : (cmtsF l).2 = false) : cmtsF (l ++ x) = if (cmtsF l).1 = [] then cmtsF x else ((cmtsF l).1 ++ x, false) := by
  induction hn : l.length using Nat.strongRecOn generalizing l with
  | _ n ih =>
    by_cases h1 : hd l = 47 ∧ pk l 1 = 42
    · have hx : hd (l ++ x) = 47 ∧ pk (l ++ x) 1 = 42 ∧ (l ++ x).drop 2 = l.drop 2 ++ x := by
        rcases l with _ | ⟨a, _ | ⟨b, l⟩⟩
        · simp at h1
        · simp [pk] at h1
        · simpa [pk] using h1
      cases hc : closeF (l.drop 2) with
      | none => rw [cmtsF_none h1 hc] at hl; cases hl
      | some r =>
        have hlt := closeF_le hc
        simp only [List.length_drop] at hlt
        rw [cmtsF_some h1 hc] at hl ⊢
        rw [cmtsF_some ⟨hx.1, hx.2.1⟩ (by rw [hx.2.2]; exact closeF_ext hc)]
        exact ih r.length (by omega) r hl rfl
    · rw [cmtsF_stop h1]
      simp only
      by_cases h2 : l = []
      · subst h2; rfl
      · rw [if_neg h2, cmtsF_stop]
        rintro ⟨e1, e2⟩
        rw [ext_ne_nil h2] at e1
        apply h1
        refine ⟨e1, ?_⟩
        rcases l with _ | ⟨a, _ | ⟨b, l⟩⟩
        · exact absurd rfl h2
        · rcases h.hd with e | e
          · simp [e] at e2
          · simp [e] at e2
        · simpa using e2
theorem nextF_ext {x : List Int} (h : CH x) {l : List Int} (hne : l ≠ []) (hl : (nextF l).2.2 = false) : nextF (l ++ x) = ((nextF l).1, (nextF l).2.1 ++ x, false) := by
  have ht : (l ++ x).tail = l.tail ++ x := by
    cases l with
    | nil => exact absurd rfl hne
    | cons c t => rfl
  have hh : hd (l ++ x) = hd l := ext_ne_nil hne
  have hp1 : pk (l ++ x) 1 = hd (l.tail ++ x) := by rw [← ht]; cases l <;> simp [pk]
  have hp1' : pk l 1 = hd l.tail := by cases l <;> simp
  have hp2 : pk (l ++ x) 2 = pk (l.tail ++ x) 1 := by rw [← ht]; cases l <;> simp [pk]
  have hp2' : pk l 2 = pk l.tail 1 := by cases l <;> simp
  have hp3 : pk (l ++ x) 3 = pk (l.tail ++ x) 2 := by rw [← ht]; cases l <;> simp [pk]
  have hp3' : pk l 3 = pk l.tail 2 := by cases l <;> simp
  have hcon : (cont (pk (l ++ x) 1) = true ∨ escs (pk (l ++ x) 1) (pk (l ++ x) 2) = true) ↔ (cont (pk l 1) = true ∨ escs (pk l 1) (pk l 2) = true) := by
    rw [hp1, hp2, hp1', hp2', ext_p h cont (by decide)]
    cases hq : l.tail with
    | nil => rcases h with rfl | ⟨y, rfl⟩ <;> simp [cont, strt, isDg, escs]
    | cons d t => simp only [List.cons_append, hd_cons, pk_cons, pk_zero]; rw [escs_ext h]
  have hid : idnt (pk (l ++ x) 1) (pk (l ++ x) 2) (pk (l ++ x) 3) = idnt (pk l 1) (pk l 2) (pk l 3) := by
    rw [hp1, hp2, hp3, hp1', hp2', hp3', ← pk_zero, ← pk_zero l.tail]; exact idnt_ext h l.tail
  have hcdc : (hd l = 45 ∧ pk (l ++ x) 1 = 45 ∧ pk (l ++ x) 2 = 62) ↔ (hd l = 45 ∧ pk l 1 = 45 ∧ pk l 2 = 62) := by
    rcases h with rfl | ⟨y, rfl⟩
    · rw [List.append_nil]
    · rcases l with _ | ⟨a, _ | ⟨b, _ | ⟨c, l⟩⟩⟩ <;> simp [pk]
  have hcdo : (hd l = 60 ∧ pk (l ++ x) 1 = 33 ∧ pk (l ++ x) 2 = 45 ∧ pk (l ++ x) 3 = 45) ↔ (hd l = 60 ∧ pk l 1 = 33 ∧ pk l 2 = 45 ∧ pk l 3 = 45) := by
    rcases h with rfl | ⟨y, rfl⟩
    · rw [List.append_nil]
    · rcases l with _ | ⟨a, _ | ⟨b, _ | ⟨c, _ | ⟨d, l⟩⟩⟩⟩ <;> simp [pk]
  unfold nextF at hl ⊢
  rw [if_neg hne] at hl ⊢
  rw [if_neg (fun e => hne (List.append_eq_nil_iff.1 e).1), hh, hid, cnts_ext h, idnt_ext h, ht]
  by_cases h1 : isSp (hd l) = true
  · rw [if_pos h1] at hl ⊢; rw [if_pos h1, spaceF_ext h]
  rw [if_neg h1] at hl ⊢
  rw [if_neg h1]
  by_cases h2 : hd l = 34 ∨ hd l = 39
  · rw [if_pos h2] at hl ⊢; rw [if_pos h2, quotF_ext h _ _ _ hl]
  rw [if_neg h2] at hl ⊢
  rw [if_neg h2]
  by_cases h3 : hd l = 35 ∧ (cont (pk l 1) = true ∨ escs (pk l 1) (pk l 2) = true)
  · rw [if_pos h3] at hl ⊢; rw [if_pos ⟨h3.1, hcon.2 h3.2⟩, nameF_ext h _ hl]
  rw [if_neg h3] at hl ⊢
  rw [if_neg (fun q => h3 ⟨q.1, hcon.1 q.2⟩)]
  by_cases h4 : cnts (pk l 0) (pk l 1) (pk l 2) = true
  · rw [if_pos h4] at hl ⊢; rw [if_pos h4, numF_ext h _ hl]
  rw [if_neg h4] at hl ⊢
  rw [if_neg h4]
  by_cases h5 : hd l = 45 ∧ pk l 1 = 45 ∧ pk l 2 = 62
  · rw [if_pos h5] at hl ⊢
    rw [if_pos (hcdc.2 h5), List.drop_append_of_le_length]
    rcases l with _ | ⟨a, _ | ⟨b, _ | ⟨c, l⟩⟩⟩ <;> simp [pk] at h5 ⊢
  rw [if_neg h5] at hl ⊢
  rw [if_neg (fun q => h5 (hcdc.1 q))]
  by_cases h6 : idnt (pk l 0) (pk l 1) (pk l 2) = true
  · rw [if_pos h6] at hl ⊢; rw [if_pos h6, namedF_ext h _ hl]
  rw [if_neg h6] at hl ⊢
  rw [if_neg h6]
  by_cases h7 : hd l = 60 ∧ pk l 1 = 33 ∧ pk l 2 = 45 ∧ pk l 3 = 45
  · rw [if_pos h7] at hl ⊢
    rw [if_pos (hcdo.2 h7), List.drop_append_of_le_length]
    rcases l with _ | ⟨a, _ | ⟨b, _ | ⟨c, _ | ⟨d, l⟩⟩⟩⟩ <;> simp [pk] at h7 ⊢
  rw [if_neg h7] at hl ⊢
  rw [if_neg (fun q => h7 (hcdo.1 q))]
  by_cases h8 : hd l = 64 ∧ idnt (pk l 1) (pk l 2) (pk l 3) = true
  · rw [if_pos h8] at hl ⊢; rw [if_pos h8, nameF_ext h _ hl]
  · rw [if_neg h8] at hl ⊢; rw [if_neg h8]
theorem toks_of_cmts {a b : List Int} (h : cmtsF a = cmtsF b) : toks a = toks b := by
  by_cases e : (cmtsF a).1 = []
  · rw [toks_nil e, toks_nil (by rw [← h]; exact e), h]
  · have e2 : (cmtsF b).1 ≠ [] := by rw [← h]; exact e
    rw [toks_cons e, toks_cons e2, h]
/-- With a comment behind a text that is not left open its tokens stay, and those behind the comment follow. -/
theorem toks_ext {x : List Int} (h : CH x) (l : List Int) (hl : (toks l).2 = false) :
    toks (l ++ x) = ((toks l).1.map (fun t => (t.1, t.2.1 ++ x, t.2.2 ++ x)) ++ (toks x).1, (toks x).2) := by
  induction hn : l.length using Nat.strongRecOn generalizing l with
  | _ n ih =>
    by_cases e : (cmtsF l).1 = []
    · rw [toks_nil e] at hl ⊢
      rw [toks_of_cmts (b := x) (by rw [cmtsF_ext h l hl, if_pos e])]; rfl
    · have hlt := nextF_lt e
      have hle := cmtsF_le l
      rw [toks_cons e] at hl ⊢
      simp only [Bool.or_eq_false_iff] at hl
      have hc : cmtsF (l ++ x) = ((cmtsF l).1 ++ x, false) := by rw [cmtsF_ext h l hl.1.1, if_neg e]
      have hx := nextF_ext h e hl.1.2
      rw [toks_cons (by rw [hc]; exact fun q => e (List.append_eq_nil_iff.1 q).1), hc]
      simp only
      rw [hx]
      simp only
      rw [ih _ (by omega) _ hl.2 rfl]
      rfl
end Go.Proofs.YtedckphklebndaaGreatDoor
/- The reference's lexer over lists of code points: a token read by itself is the same one. No condition; no program in sight. -/
namespace Go.Proofs.YtedckphklebndaaGreatDoor
open Go
theorem suf_split {u r v : List Int} (h : r <:+ v) (_ : v <:+ u ++ r) : ∃ w, v = w ++ r := by obtain ⟨w, hw⟩ := h; exact ⟨w, hw.symm⟩
theorem app_self {w r : List Int} (h : (w ++ r).length ≤ r.length) : w = [] := by
  rw [List.length_append] at h
  exact List.eq_nil_of_length_eq_zero (by omega)
theorem escF_lt {l : List Int} (h : (escF l).2.2 = false) : (escF l).2.1.length < l.length := by
  cases l with
  | nil => cases h
  | cons c t =>
    simp only [escF] at h ⊢
    split
    · simp
    · rename_i e
      have h1 := escRest_le (hexs 6 0 (c :: t)).2
      have h2 : (hexs 6 0 (c :: t)).2.length < (c :: t).length := by
        simp only [hexs]
        rw [if_pos (by omega)]
        have := hexs_le 5 (0 * 16 + hexv c) t
        simp only [List.length_cons]; omega
      simp only
      omega
theorem badF_lt {l : List Int} (h : (badF l).2 = false) : (badF l).1.length < l.length := by
  induction l with
  | nil => rw [badF] at h; cases h
  | cons c t ih =>
    rw [badF] at h ⊢
    by_cases h1 : c = 41
    · rw [if_pos h1]; simp
    · rw [if_neg h1] at h ⊢
      by_cases h2 : escs c (hd t) = true
      · rw [if_pos h2] at h; cases h
      · rw [if_neg h2] at h ⊢
        have := ih h
        simp only [List.length_cons]; omega
theorem urlF_lt (l : List Int) : ∀ out, (urlF out l).2.2 = false → (urlF out l).2.1.length < l.length := by
  induction hn : l.length using Nat.strongRecOn generalizing l with
  | _ n ih =>
    intro out hl
    cases l with
    | nil => rw [urlF] at hl; cases hl
    | cons c t =>
      have e3 := escF_le t
      have e4 := spaceF_len t
      simp only [List.length_cons] at hn
      rw [urlF] at hl ⊢
      by_cases h1 : c = 41
      · rw [if_pos h1]; simp only; omega
      · rw [if_neg h1] at hl ⊢
        by_cases h2 : isSp c = true
        · rw [if_pos h2] at hl ⊢
          by_cases h3 : spaceF t = []
          · rw [if_pos h3] at hl; cases hl
          · rw [if_neg h3] at hl ⊢
            by_cases h4 : hd (spaceF t) = 41
            · rw [if_pos h4]; simp only [List.length_tail]; omega
            · rw [if_neg h4] at hl ⊢
              have := badF_lt hl
              simp only; omega
        · rw [if_neg h2] at hl ⊢
          split
          · rename_i h3
            rw [if_pos h3] at hl
            have := badF_lt hl
            simp only [List.length_cons] at this ⊢; omega
          · rename_i h3
            rw [if_neg h3] at hl
            by_cases h4 : c = 92
            · rw [if_pos h4] at hl ⊢
              simp only [Bool.or_eq_false_iff] at hl
              have := ih (escF t).2.1.length (by omega) _ rfl _ hl.2
              simp only; omega
            · rw [if_neg h4] at hl ⊢
              have := ih t.length (by omega) t rfl _ hl
              omega
/-- What may stand behind a name that has ended. -/
def ST (r : List Int) : Prop := cont (hd r) = false ∧ isSp (hd r) = false ∧ hd r ≠ 92
theorem cont_hex {c : Int} (h : cont c = false) : hexv c < 0 := by
  unfold cont strt isDg at h
  simp at h
  unfold hexv
  split
  · omega
  · split
    · omega
    · split
      · omega
      · omega
theorem hexs_halt {l : List Int} (h : hexv (hd l) < 0) (n : Nat) (v : Int) : hexs n v l = (v, l) := by
  cases n with
  | zero => rfl
  | succ n =>
    cases l with
    | nil => rfl
    | cons c t => simp only [hd_cons] at h; simp only [hexs]; rw [if_neg (by omega)]
theorem hexs_cut {r r2 : List Int} (h2 : hexv (hd r2) < 0) (n : Nat) : ∀ (v0 : Int) (u : List Int) (v : Int) (w : List Int), hexs n v0 (u ++ r) = (v, w ++ r) → hexs n v0 (u ++ r2) = (v, w ++ r2) := by
  induction n with
  | zero =>
    intro v0 u v w h
    simp only [hexs, Prod.mk.injEq, List.append_cancel_right_eq] at h ⊢
    exact h
  | succ n ih =>
    intro v0 u v w h
    cases u with
    | nil =>
      rw [List.nil_append] at h
      have hl := hexs_le (n + 1) v0 r
      rw [h] at hl
      have hw := app_self hl
      subst hw
      have hr : hexv (hd r) < 0 ∨ r = [] := by
        cases r with
        | nil => exact .inr rfl
        | cons c t =>
          left
          simp only [hexs] at h
          split at h
          · have := hexs_le n (v0 * 16 + hexv c) t
            rw [h] at this
            simp only [List.nil_append, List.length_cons] at this
            omega
          · simp only [hd_cons]; omega
      have hv : v = v0 := by
        rcases hr with hr | rfl
        · rw [hexs_halt hr] at h; injection h with h _; exact h.symm
        · simp only [hexs] at h; injection h with h _; exact h.symm
      rw [hv, List.nil_append, hexs_halt h2]
    | cons c t =>
      simp only [List.cons_append, hexs] at h ⊢
      split
      · rename_i e; rw [if_pos e] at h; exact ih _ _ _ _ h
      · rename_i e
        rw [if_neg e] at h
        simp only [Prod.mk.injEq] at h ⊢
        have := h.2
        rw [← List.cons_append, List.append_cancel_right_eq] at this
        subst this
        exact ⟨h.1, rfl⟩
theorem escF_cut {r r2 : List Int} (h2 : hexv (hd r2) < 0) (h3 : isSp (hd r2) = false) {u w : List Int} {v : Int} (hu : u ≠ []) (h : escF (u ++ r) = (v, w ++ r, false)) : escF (u ++ r2) = (v, w ++ r2, false) := by
  cases u with
  | nil => exact absurd rfl hu
  | cons c t =>
    simp only [List.cons_append, escF] at h ⊢
    by_cases hx : hexv c < 0
    · rw [if_pos hx] at h ⊢
      simp only [Prod.mk.injEq, List.append_cancel_right_eq, and_true] at h ⊢
      exact h
    · rw [if_neg hx] at h ⊢
      simp only [Prod.mk.injEq] at h
      obtain ⟨e1, e2, e3⟩ := h
      obtain ⟨w1, hw1⟩ : ∃ w1, (hexs 6 0 (c :: (t ++ r))).2 = w1 ++ r := by
        obtain ⟨p, hp⟩ := escRest_suf (hexs 6 0 (c :: (t ++ r))).2
        rw [e2] at hp
        exact ⟨p ++ w, by rw [← hp, List.append_assoc]⟩
      have hc := hexs_cut h2 6 0 (c :: t) (hexs 6 0 (c :: (t ++ r))).1 w1 (by rw [List.cons_append, ← hw1])
      rw [List.cons_append] at hc
      rw [hc]
      rw [hw1] at e2 e3
      simp only [Prod.mk.injEq]
      refine ⟨e1, ?_, ?_⟩
      · unfold escRest at e2 ⊢
        rw [if_neg (by rw [e3]; decide)] at e2
        cases w1 with
        | nil =>
          rw [List.nil_append] at e2 ⊢
          have hnl : isNL (hd r2) = false := by
            unfold isSp at h3; simp only [Bool.or_eq_false_iff] at h3; exact h3.1.1
          rw [if_neg (by rw [hnl]; decide), if_neg (by rw [h3]; decide)]
          have : w = [] := by
            split at e2
            · rename_i e
              apply app_self (r := r)
              rw [← e2]; simp
            · apply app_self (r := r); rw [← e2]; omega
          rw [this]; rfl
        | cons s w1 =>
          have g1 : hd (s :: w1 ++ r2) = s := rfl
          have g2 : hd (s :: w1 ++ r) = s := rfl
          have g3 : (s :: w1 ++ r2).tail = w1 ++ r2 := rfl
          have g4 : (s :: w1 ++ r).tail = w1 ++ r := rfl
          rw [g1, g3]
          rw [g2, g4] at e2
          rw [g2] at e3
          rw [if_neg (by rw [e3]; decide)]
          by_cases e : isSp s = true
          · rw [if_pos e, List.append_cancel_right_eq] at e2
            rw [if_pos e, e2]
          · rw [if_neg e, List.append_cancel_right_eq] at e2
            rw [if_neg e, ← e2]
      · cases w1 with
        | nil =>
          unfold isSp at h3; simp only [Bool.or_eq_false_iff] at h3; exact h3.1.1
        | cons s w1 => simpa using e3
theorem nameF_halt {l : List Int} (h : cont (hd l) = false) (h2 : escs (hd l) (pk l 1) = false) : nameF l = ([], l, false) := by
  cases l with
  | nil => rw [nameF]
  | cons c t =>
    simp only [hd_cons, pk_cons, pk_zero] at h h2
    rw [nameF, if_neg (by rw [h]; decide), if_neg (by rw [h2]; decide)]
theorem nameF_stay {r o : _} (h : nameF r = (o, r, false)) : cont (hd r) = false ∧ escs (hd r) (pk r 1) = false := by
  have h1 : ¬ (cont (hd r) = true ∨ escs (hd r) (pk r 1) = true) := fun e => by
    have := nameF_lt e
    rw [h] at this
    exact absurd this (Nat.lt_irrefl _)
  exact ⟨by simpa using fun e => h1 (.inl e), by simpa using fun e => h1 (.inr e)⟩
theorem nameF_end (u r : List Int) (o : List UInt8) (h : nameF (u ++ r) = (o, r, false)) : cont (hd r) = false ∧ escs (hd r) (pk r 1) = false := by
  induction hn : u.length using Nat.strongRecOn generalizing u o with
  | _ n ih =>
    cases u with
    | nil => exact nameF_stay h
    | cons c t =>
      simp only [List.length_cons] at hn
      rw [List.cons_append, nameF] at h
      split at h
      · simp only [Prod.mk.injEq] at h
        exact ih t.length (by omega) t _ (Prod.ext rfl (h.2)) rfl
      · split at h
        · simp only [Prod.mk.injEq, Bool.or_eq_false_iff] at h
          have hs := nameF_suf (escF (t ++ r)).2.1
          rw [h.2.1] at hs
          obtain ⟨w, hw⟩ := hs
          have hlt := escF_lt h.2.2.1
          rw [← hw, List.length_append, List.length_append] at hlt
          exact ih w.length (by omega) w (nameF (w ++ r)).1 (Prod.ext rfl (Prod.ext (by rw [hw]; exact h.2.1) (by rw [hw]; exact h.2.2.2))) rfl
        · simp only [Prod.mk.injEq] at h
          have := congrArg List.length h.2.1
          simp at this
          omega
theorem nameF_cut {r r2 : List Int} (h2 : ST r2) (u : List Int) (o : List UInt8) (h : nameF (u ++ r) = (o, r, false)) : nameF (u ++ r2) = (o, r2, false) := by
  obtain ⟨s1, s2, s3⟩ := h2
  have s4 := cont_hex s1
  induction hn : u.length using Nat.strongRecOn generalizing u o with
  | _ n ih =>
    cases u with
    | nil =>
      rw [List.nil_append] at h
      have hs := nameF_stay h
      rw [nameF_halt hs.1 hs.2] at h
      rw [List.nil_append, nameF_halt s1 (by unfold escs; rw [beq_eq_false_iff_ne.2 s3]; rfl)]
      simp only [Prod.mk.injEq] at h
      rw [h.1]
    | cons c t =>
      simp only [List.length_cons] at hn
      rw [List.cons_append, nameF] at h ⊢
      by_cases hc : cont c = true
      · rw [if_pos hc] at h ⊢
        simp only [Prod.mk.injEq] at h
        have := ih t.length (by omega) t (nameF (t ++ r)).1 (Prod.ext rfl h.2) rfl
        rw [this, h.1]
      · rw [if_neg hc] at h ⊢
        by_cases he : escs c (hd (t ++ r)) = true
        · rw [if_pos he] at h
          simp only [Prod.mk.injEq, Bool.or_eq_false_iff] at h
          have hlt := escF_lt h.2.2.1
          have hs := nameF_suf (escF (t ++ r)).2.1
          rw [h.2.1] at hs
          obtain ⟨w, hw⟩ := hs
          rw [← hw, List.length_append, List.length_append] at hlt
          have ht : t ≠ [] := by rintro rfl; simp at hlt; omega
          have hE : escF (t ++ r) = ((escF (t ++ r)).1, w ++ r, false) := Prod.ext rfl (Prod.ext hw.symm h.2.2.1)
          have hE2 := escF_cut s4 s2 ht hE
          rw [ext_ne_nil ht] at he ⊢
          rw [if_pos he, hE2]
          simp only
          have hI := ih w.length (by omega) w (nameF (w ++ r)).1 (Prod.ext rfl (Prod.ext (by rw [hw]; exact h.2.1) (by rw [hw]; exact h.2.2.2))) rfl
          rw [hI, ← h.1, hw]; rfl
        · rw [if_neg he] at h
          simp only [Prod.mk.injEq] at h
          have := congrArg List.length h.2.1
          simp at this
          omega
theorem ST.nil : ST [] := ⟨by decide, by decide, by decide⟩
theorem ST.paren (t : List Int) : ST (40 :: t) := ⟨by simp [cont, strt, isDg], by simp [isSp, isNL], by simp⟩
theorem drop_cut {p : Int → Bool} {u w r : List Int} (h : (u ++ r).dropWhile p = w ++ r) : u.dropWhile p = w := by
  induction u with
  | nil =>
    rw [List.nil_append] at h
    have := (List.dropWhile_sublist (l := r) p).length_le
    rw [h] at this
    rw [app_self this]; rfl
  | cons c t ih =>
    rw [List.cons_append, List.dropWhile_cons] at h
    rw [List.dropWhile_cons]
    split
    · rename_i e; rw [if_pos e] at h; exact ih h
    · rename_i e
      rw [if_neg e, ← List.cons_append, List.append_cancel_right_eq] at h
      exact h
theorem badF_no {r : List Int} (h : badF r = (r, false)) : False := by
  have := badF_lt (l := r) (by rw [h])
  rw [h] at this
  exact absurd this (Nat.lt_irrefl _)
theorem badF_cut {r : List Int} (u : List Int) (h : badF (u ++ r) = (r, false)) : badF u = ([], false) := by
  induction u with
  | nil => exact (badF_no h).elim
  | cons c t ih =>
    rw [List.cons_append, badF] at h
    rw [badF]
    by_cases h1 : c = 41
    · rw [if_pos h1] at h ⊢
      simp only [Prod.mk.injEq, and_true] at h ⊢
      exact app_self (by rw [h]; exact Nat.le_refl _)
    · rw [if_neg h1] at h ⊢
      by_cases h2 : escs c (hd (t ++ r)) = true
      · rw [if_pos h2] at h; simp at h
      · rw [if_neg h2] at h
        have ht : t ≠ [] := by rintro rfl; exact badF_no h
        rw [ext_ne_nil ht] at h2
        rw [if_neg h2]
        exact ih h
theorem urlF_cut {r : List Int} {tok : Tok} (u : List Int) : ∀ out, urlF out (u ++ r) = (tok, r, false) → urlF out u = (tok, [], false) := by
  induction hn : u.length using Nat.strongRecOn generalizing u with
  | _ n ih =>
    intro out h
    cases u with
    | nil =>
      have := urlF_lt r out (by rw [List.nil_append] at h; rw [h])
      rw [List.nil_append] at h
      rw [h] at this
      exact absurd this (Nat.lt_irrefl _)
    | cons c t =>
      simp only [List.length_cons] at hn
      rw [List.cons_append, urlF] at h
      rw [urlF]
      by_cases h1 : c = 41
      · rw [if_pos h1] at h ⊢
        simp only [Prod.mk.injEq, and_true] at h ⊢
        exact ⟨h.1, app_self (by rw [h.2]; exact Nat.le_refl _)⟩
      · rw [if_neg h1] at h ⊢
        by_cases h2 : isSp c = true
        · rw [if_pos h2] at h ⊢
          by_cases h3 : spaceF (t ++ r) = []
          · rw [if_pos h3] at h; simp at h
          · rw [if_neg h3] at h
            by_cases h4 : hd (spaceF (t ++ r)) = 41
            · rw [if_pos h4] at h
              simp only [Prod.mk.injEq, and_true] at h
              have hs : spaceF (t ++ r) = [41] ++ r := by
                cases hh : spaceF (t ++ r) with
                | nil => exact absurd hh h3
                | cons d y => rw [hh] at h h4; simp only [hd_cons, List.tail_cons] at h h4; rw [h4, h.2]; rfl
              have := drop_cut (p := isSp) hs
              unfold spaceF
              rw [this, if_neg (by simp), if_pos (show hd [41] = 41 from rfl)]
              simp only [Prod.mk.injEq, and_true]
              exact ⟨h.1, rfl⟩
            · rw [if_neg h4] at h
              simp only [Prod.mk.injEq] at h
              have hb : badF (spaceF (t ++ r)) = (r, false) := Prod.ext h.2.1 h.2.2
              have hs := badF_suf (spaceF (t ++ r))
              rw [hb] at hs
              obtain ⟨w, hw⟩ := hs
              have hw0 : w ≠ [] := by rintro rfl; rw [List.nil_append] at hw; rw [← hw] at hb; exact badF_no hb
              have hsp : spaceF t = w := drop_cut (p := isSp) hw.symm
              rw [← hw] at hb h4
              rw [ext_ne_nil hw0] at h4
              rw [hsp, if_neg hw0, if_neg h4, badF_cut w hb, h.1]
        · rw [if_neg h2] at h ⊢
          by_cases h3 : c = 34 ∨ c = 39 ∨ c = 40 ∨ unpr c = true ∨ (c = 92 ∧ isNL (hd (t ++ r)) = true)
          · rw [if_pos h3] at h
            simp only [Prod.mk.injEq] at h
            have hb : badF (c :: t ++ r) = (r, false) := Prod.ext h.2.1 h.2.2
            have h3' : c = 34 ∨ c = 39 ∨ c = 40 ∨ unpr c = true ∨ (c = 92 ∧ isNL (hd t) = true) := by
              rcases h3 with e | e | e | e | ⟨e1, e2⟩
              · exact .inl e
              · exact .inr (.inl e)
              · exact .inr (.inr (.inl e))
              · exact .inr (.inr (.inr (.inl e)))
              · refine .inr (.inr (.inr (.inr ⟨e1, ?_⟩)))
                have ht : t ≠ [] := by
                  rintro rfl
                  rw [List.nil_append] at e2
                  rw [List.cons_append, List.nil_append, badF, if_neg h1, if_neg (by unfold escs; rw [e2]; simp)] at hb
                  exact badF_no hb
                rw [ext_ne_nil ht] at e2
                exact e2
            rw [if_pos h3', badF_cut _ hb, h.1]
          · rw [if_neg h3] at h
            have h3' : ¬ (c = 34 ∨ c = 39 ∨ c = 40 ∨ unpr c = true ∨ (c = 92 ∧ isNL (hd t) = true)) := by
              rintro (e | e | e | e | ⟨e1, e2⟩)
              · exact h3 (.inl e)
              · exact h3 (.inr (.inl e))
              · exact h3 (.inr (.inr (.inl e)))
              · exact h3 (.inr (.inr (.inr (.inl e))))
              · have ht : t ≠ [] := by rintro rfl; simp [isNL] at e2
                exact h3 (.inr (.inr (.inr (.inr ⟨e1, by rw [ext_ne_nil ht]; exact e2⟩))))
            rw [if_neg h3']
            by_cases h4 : c = 92
            · rw [if_pos h4] at h ⊢
              simp only [Prod.mk.injEq, Bool.or_eq_false_iff] at h
              have hlt := escF_lt h.2.2.1
              have hs := urlF_suf (escF (t ++ r)).2.1 (out ++ enc (escF (t ++ r)).1)
              rw [h.2.1] at hs
              obtain ⟨w, hw⟩ := hs
              rw [← hw, List.length_append, List.length_append] at hlt
              have ht : t ≠ [] := by rintro rfl; simp at hlt; omega
              have hE : escF (t ++ r) = ((escF (t ++ r)).1, w ++ r, false) := Prod.ext rfl (Prod.ext hw.symm h.2.2.1)
              have hE2 := escF_cut (r2 := []) (by decide) (by decide) ht hE
              rw [List.append_nil, List.append_nil] at hE2
              rw [hE2]
              simp only
              have hI := ih w.length (by omega) w rfl (out ++ enc (escF (t ++ r)).1) (Prod.ext (by rw [hw]; exact h.1) (Prod.ext (by rw [hw]; exact h.2.1) (by rw [hw]; exact h.2.2.2)))
              rw [hI]; rfl
            · rw [if_neg h4] at h ⊢
              exact ih t.length (by omega) t rfl _ h
theorem nlTake_cut {u w r : List Int} (hu : u ≠ []) (h : nlTake (u ++ r) = w ++ r) : nlTake u = w := by
  cases u with
  | nil => exact absurd rfl hu
  | cons c t =>
    simp only [List.cons_append, nlTake] at h ⊢
    cases t with
    | nil =>
      rw [List.nil_append] at h
      by_cases e : c = 13 ∧ hd r = 10
      · rw [if_pos e] at h
        have hr : r ≠ [] := by rintro rfl; simp at e
        have := congrArg List.length h
        rw [List.length_append, List.length_tail] at this
        have : 0 < r.length := List.length_pos_iff.2 hr
        omega
      · rw [if_neg e] at h
        have : w = [] := app_self (r := r) (by rw [← h]; exact Nat.le_refl _)
        rw [this, if_neg (by simp)]
    | cons d t =>
      have g1 : hd (d :: t ++ r) = d := rfl
      have g2 : (d :: t ++ r).tail = t ++ r := rfl
      have g3 : hd (d :: t) = d := rfl
      rw [g1, g2] at h
      rw [g3, List.tail_cons]
      by_cases e : c = 13 ∧ d = 10
      · rw [if_pos e, List.append_cancel_right_eq] at h; rw [if_pos e]; exact h
      · rw [if_neg e, List.append_cancel_right_eq] at h; rw [if_neg e]; exact h
theorem nlTake_lt {l : List Int} (h : l ≠ []) : (nlTake l).length < l.length := by
  cases l with
  | nil => exact absurd rfl h
  | cons c t =>
    have := nlTake_cons_le c t
    simp only [List.length_cons]; omega
theorem quotF_cut {r : List Int} {tok : Tok} (hk : tok.kind = 36) (q : Int) (u : List Int) : ∀ out, quotF q out (u ++ r) = (tok, r, false) → quotF q out u = (tok, [], false) := by
  induction hn : u.length using Nat.strongRecOn generalizing u with
  | _ n ih =>
    intro out h
    cases u with
    | nil =>
      rw [List.nil_append] at h
      cases r with
      | nil => rw [quotF] at h; simp at h
      | cons c t =>
        have e3 := escF_le t
        rw [quotF] at h
        exfalso
        by_cases h1 : c = q
        · rw [if_pos h1] at h
          simp only [Prod.mk.injEq] at h
          have := congrArg List.length h.2.1
          simp at this
        · rw [if_neg h1] at h
          by_cases h2 : isNL c = true
          · rw [if_pos h2] at h
            simp only [Prod.mk.injEq] at h
            rw [← h.1] at hk; simp at hk
          · rw [if_neg h2] at h
            by_cases h3 : c = 92
            · rw [if_pos h3] at h
              by_cases h4 : isNL (hd t) = true
              · rw [if_pos h4] at h
                have e1 := quotF_le q (nlTake t) out
                have e2 := nlTake_le t
                rw [h] at e1
                simp at e1; omega
              · rw [if_neg h4] at h
                by_cases h5 : t = []
                · rw [if_pos h5] at h; simp at h
                · rw [if_neg h5] at h
                  simp only [Prod.mk.injEq] at h
                  have e1 := quotF_le q (escF t).2.1 (out ++ enc (escF t).1)
                  rw [h.2.1] at e1
                  simp at e1; omega
            · rw [if_neg h3] at h
              have e1 := quotF_le q t (out ++ enc c)
              rw [h] at e1
              simp at e1; omega
    | cons c t =>
      simp only [List.length_cons] at hn
      rw [List.cons_append, quotF] at h
      rw [quotF]
      by_cases h1 : c = q
      · rw [if_pos h1] at h ⊢
        simp only [Prod.mk.injEq, and_true] at h ⊢
        exact ⟨h.1, app_self (by rw [h.2]; exact Nat.le_refl _)⟩
      · rw [if_neg h1] at h ⊢
        by_cases h2 : isNL c = true
        · rw [if_pos h2] at h
          simp only [Prod.mk.injEq] at h
          rw [← h.1] at hk; simp at hk
        · rw [if_neg h2] at h ⊢
          by_cases h3 : c = 92
          · rw [if_pos h3] at h ⊢
            have ht : t ≠ [] := by
              rintro rfl
              rw [List.nil_append] at h
              by_cases h4 : isNL (hd r) = true
              · rw [if_pos h4] at h
                have hr : r ≠ [] := by rintro rfl; simp [isNL] at h4
                have e1 := quotF_le q (nlTake r) out
                have e2 := nlTake_lt hr
                rw [h] at e1
                simp only at e1; omega
              · rw [if_neg h4] at h
                by_cases h5 : r = []
                · rw [if_pos h5] at h; simp at h
                · rw [if_neg h5] at h
                  simp only [Prod.mk.injEq, Bool.or_eq_false_iff] at h
                  have e1 := quotF_le q (escF r).2.1 (out ++ enc (escF r).1)
                  have e2 := escF_lt h.2.2.1
                  rw [h.2.1] at e1
                  omega
            rw [ext_ne_nil ht] at h
            by_cases h4 : isNL (hd t) = true
            · rw [if_pos h4] at h ⊢
              have hs := quotF_suf q (nlTake (t ++ r)) out
              rw [h] at hs
              obtain ⟨w, hw⟩ := hs
              simp only at hw
              have hc := nlTake_cut ht hw.symm
              have hlt := nlTake_lt ht
              rw [hc] at hlt
              rw [hc]
              rw [← hw] at h
              exact ih w.length (by omega) w rfl out h
            · rw [if_neg h4] at h ⊢
              rw [if_neg (fun e => ht (List.append_eq_nil_iff.1 e).1)] at h
              rw [if_neg ht]
              simp only [Prod.mk.injEq, Bool.or_eq_false_iff] at h
              have hlt := escF_lt h.2.2.1
              have hs := quotF_suf q (escF (t ++ r)).2.1 (out ++ enc (escF (t ++ r)).1)
              rw [h.2.1] at hs
              obtain ⟨w, hw⟩ := hs
              rw [← hw, List.length_append, List.length_append] at hlt
              have hE : escF (t ++ r) = ((escF (t ++ r)).1, w ++ r, false) := Prod.ext rfl (Prod.ext hw.symm h.2.2.1)
              have hE2 := escF_cut (r2 := []) (by decide) (by decide) ht hE
              rw [List.append_nil, List.append_nil] at hE2
              rw [hE2]
              simp only
              have hI := ih w.length (by omega) w rfl (out ++ enc (escF (t ++ r)).1) (Prod.ext (by rw [hw]; exact h.1) (Prod.ext (by rw [hw]; exact h.2.1) (by rw [hw]; exact h.2.2.2)))
              rw [hI]; rfl
          · rw [if_neg h3] at h ⊢
            exact ih t.length (by omega) t rfl _ h
end Go.Proofs.YtedckphklebndaaGreatDoor
