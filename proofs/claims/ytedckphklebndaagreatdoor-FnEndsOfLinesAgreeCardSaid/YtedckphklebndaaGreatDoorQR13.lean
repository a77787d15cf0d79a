/- Comments: the rows that hold them, and where the address of a source map may begin (plain). -/
import Derived.Test.YtedckphklebndaaGreatDoorQR12
namespace Go.Proofs.YtedckphklebndaaGreatDoor
open Go Go.RowKit
theorem info50 : (Tryz.prog.info? 50).map (fun i => (i.zero, i.size, i.bytes)) = some (some (.agg #[.int .i32 0, .int .i32 0]), 2, 8) := by kernel_rfl
theorem info122 : (Tryz.prog.info? 122).map (fun i => (i.zero, i.size, i.bytes)) = some (some (.agg #[.string ⟨#[]⟩, .int .i32 0, .int .u32 0]), 3, 24) := by kernel_rfl
/-- Where the address of a source map may begin. -/
def SM (s : ByteArray) (u : Nat) (l : List Int) : Prop := u = 0 ∨ u ≤ ps s l ∨ ∃ q rest, l = q ++ rest ∧ (∀ c ∈ q, c ≠ 42) ∧ ps s rest = u
theorem SM.star {s : ByteArray} {u : Nat} {l : List Int} (h : SM s u l) (h42 : hd l = 42) : u ≤ ps s l := by
  rcases h with rfl | h | ⟨q, rest, rfl, hq, hr⟩
  · exact Nat.zero_le _
  · exact h
  · cases q with
    | nil => rw [← hr]; exact Nat.le_refl _
    | cons c q => exact absurd h42 (hq c (List.mem_cons_self ..))
theorem SM.tail {s : ByteArray} {u : Nat} {l : List Int} (h : SM s u l) (hS : Sfx s l) : SM s u l.tail := by
  have hp := ps_tail_le hS
  rcases h with rfl | h | ⟨q, rest, rfl, hq, hr⟩
  · exact .inl rfl
  · exact .inr (.inl (by omega))
  · cases q with
    | nil => exact .inr (.inl (by rw [← hr]; exact hp.1))
    | cons c q => exact .inr (.inr ⟨q, rest, rfl, fun x hx => hq x (List.mem_cons_of_mem _ hx), hr⟩)
/-- What begins with plain letters. -/
theorem pre_codes (bs : List UInt8) : (∀ b ∈ bs, b.toNat < 128) → ∀ t : List Int, RnAll t → bs <+: encs t → ∃ rest, t = bs.map (fun b => (b.toNat : Int)) ++ rest := by
  induction bs with
  | nil => intro _ t _ _; exact ⟨t, rfl⟩
  | cons b bs ih =>
    intro hb t ht hp
    cases t with
    | nil => obtain ⟨r, hr⟩ := hp; simp [encs] at hr
    | cons c t =>
      obtain ⟨e, he⟩ := enc_lead ht.head
      have hlb := lead_byte ht.head
      obtain ⟨r, hr⟩ := hp
      simp only [encs] at hr
      rw [he, List.cons_append, List.cons_append] at hr
      injection hr with h1 h2
      have hb0 := hb b (List.mem_cons_self ..)
      have h3 : (b.toNat : Int) = lead c := by rw [h1]; exact toNat_u8 _ hlb.1 hlb.2
      have hc : c < 128 := by
        by_cases q : c < 128
        · exact q
        · have := lead_high ht.head (by omega); omega
      have hc0 : 0 ≤ c := by have := ht.head.1; omega
      rw [lead_low hc] at h3
      have he2 : e = [] := by
        have := enc_one hc0 hc
        rw [he] at this
        injection this
      rw [he2, List.nil_append] at h2
      obtain ⟨rest, hrest⟩ := ih (fun x hx => hb x (List.mem_cons_of_mem _ hx)) t ht.tail ⟨r, h2⟩
      exact ⟨rest, by rw [List.map_cons, List.cons_append, ← hrest, h3]⟩
section
variable {S : Nat → Prop} {B : Nat} {k : LK} {w0 w w3 : World} {g : Nat} {s : ByteArray} {r : Nat → Value} {st : Nat} {l lt : List Int} {q : Nat}
theorem LQ.row17 (h : LQ S B k w0 w g s r st l lt q) {v' : Value} {n' q' : Nat} {xs' : List Value} (hk : Keep (fun j => (r 17).ownBlock = some j) w w3) (ho : w3.ownsRow B 50 2 v' n' xs') (hn : n' ≤ q') (hq : q ≤ q') (hs : ∀ j, v'.ownBlock = some j → (r 17).ownBlock = some j ∨ w.heap.size ≤ j) :
    LQ S B k w0 (w3.setCell ⟨g, 17, none⟩ v') g s (up r 17 v') st l lt q' := by
  obtain ⟨nl, z0, z1, hL⟩ := h.la.lx
  obtain ⟨v, hl, s1, s2, s3, s4⟩ := h.log
  obtain ⟨n1, x1, o1, m1, t1⟩ := h.all
  obtain ⟨n2, x2, o2, m2, t2⟩ := h.leg
  obtain ⟨b, hhe⟩ := hl.hhe
  obtain ⟨nm, xm, om, mm⟩ := hl.own
  obtain ⟨q0, _, _, _⟩ := h.lo
  have hbig := h.la.big
  have hlt := o1.lt
  have hL3 := hk.blk hL (own_ne o1 hL (by decide))
  have hA3 : LA w3 w3 g s r st l := ⟨⟨nl, z0, z1, hL3⟩, h.la.sfx, Keep.refl _ _, h.la.size, tabs_keep h.la.tabs hk (fun e => by have := (hlt 0 e).1; omega) (fun e => by have := (hlt 1 e).1; omega), h.la.big, h.la.from_⟩
  have hA4 := hA3.up17 v'
  have hK4 := hA4.kp
  have hl3 := hl.keep hk (own_ne o1 hl.hkd (by decide)) (own_ne o1 hl.hmu (by decide)) (own_ne o1 hhe (by decide)) (own_ne o1 hl.hms (by decide)) (fun j e1 e2 => own_own_ne om o1 (by decide) e1 e2)
  obtain ⟨b3, hhe3⟩ := hl3.hhe
  obtain ⟨nm3, xm3, om3, mm3⟩ := hl3.own
  have o23 := hk.own o2 (fun j e1 e2 => own_own_ne o2 o1 (by decide) e1 e2)
  refine ⟨hA4.now, (h.kp.trans (hk.mono (fun j _ e => t1 j e))).trans (hK4.mono (fun j _ e => by rw [e]; exact h.sg)), h.new, h.sg, Nat.le_trans (Nat.le_trans h.hB hk.size) hK4.size, h.lo, h.tr.out (fun j a b => up_other (by omega)), ⟨by rw [up_other (by decide)]; exact h.c0.1, by unfold SpC; rw [up_other (by decide), up_other (by decide), up_other (by decide)]; exact h.c0.2⟩, fun j hj => by rw [up_other (by omega)]; exact h.c1 j hj, ?_, ?_, ?_⟩
  · obtain ⟨y1, y2, y3, y4, y5, y6, y7, y8⟩ := hl3.keep hK4 (blk_ne hl3.hkd hL3 (by decide)) (blk_ne hl3.hmu hL3 (by decide)) (blk_ne hhe3 hL3 (by decide)) (blk_ne hl3.hms hL3 (by decide)) (fun j e1 e2 => own_ne om3 hL3 (by decide) (by rw [e1, e2]))
    exact ⟨v, ⟨y1, y2, y3, y4, y5, y6, y7, by omega⟩, s1, s2, s3, s4⟩
  · rw [up_same]
    refine ⟨n', xs', hK4.own ho (fun j e1 e2 => own_ne ho hL3 (by decide) (by rw [e1, e2])), hn, fun j e => ?_⟩
    rcases hs j e with e2 | e2
    · exact t1 j e2
    · exact h.new j (by have := h.kp.size; omega)
  · rw [up_other (by decide)]
    exact ⟨n2, x2, hK4.own o23 (fun j e1 e2 => own_ne o23 hL3 (by decide) (by rw [e1, e2])), by omega, t2⟩
theorem LQ.row18 (h : LQ S B k w0 w g s r st l lt q) {v' : Value} {n' q' : Nat} {xs' : List Value} (hk : Keep (fun j => (r 18).ownBlock = some j) w w3) (ho : w3.ownsRow B 122 3 v' n' xs') (hn : n' ≤ q') (hq : q ≤ q') (hs : ∀ j, v'.ownBlock = some j → (r 18).ownBlock = some j ∨ w.heap.size ≤ j) (hsc : ∀ u ∈ xs', u.oneCell' = true) :
    LQ S B k w0 (w3.setCell ⟨g, 18, none⟩ v') g s (up r 18 v') st l lt q' := by
  obtain ⟨nl, z0, z1, hL⟩ := h.la.lx
  obtain ⟨v, hl, s1, s2, s3, s4⟩ := h.log
  obtain ⟨n1, x1, o1, m1, t1⟩ := h.all
  obtain ⟨n2, x2, o2, m2, t2⟩ := h.leg
  obtain ⟨b, hhe⟩ := hl.hhe
  obtain ⟨nm, xm, om, mm⟩ := hl.own
  obtain ⟨q0, _, _, _⟩ := h.lo
  have hbig := h.la.big
  have hlt := o2.lt
  have hL3 := hk.blk hL (own_ne o2 hL (by decide))
  have hA3 : LA w3 w3 g s r st l := ⟨⟨nl, z0, z1, hL3⟩, h.la.sfx, Keep.refl _ _, h.la.size, tabs_keep h.la.tabs hk (fun e => by have := (hlt 0 e).1; omega) (fun e => by have := (hlt 1 e).1; omega), h.la.big, h.la.from_⟩
  have hA4 := hA3.up18 v'
  have hK4 := hA4.kp
  have hl3 := hl.keep hk (own_ne o2 hl.hkd (by decide)) (own_ne o2 hl.hmu (by decide)) (own_ne o2 hhe (by decide)) (own_ne o2 hl.hms (by decide)) (fun j e1 e2 => own_own_ne om o2 (by decide) e1 e2)
  obtain ⟨b3, hhe3⟩ := hl3.hhe
  obtain ⟨nm3, xm3, om3, mm3⟩ := hl3.own
  have o13 := hk.own o1 (fun j e1 e2 => own_own_ne o1 o2 (by decide) e1 e2)
  refine ⟨hA4.now, (h.kp.trans (hk.mono (fun j _ e => t2.1 j e))).trans (hK4.mono (fun j _ e => by rw [e]; exact h.sg)), h.new, h.sg, Nat.le_trans (Nat.le_trans h.hB hk.size) hK4.size, h.lo, h.tr.out (fun j a b => up_other (by omega)), ⟨by rw [up_other (by decide)]; exact h.c0.1, by unfold SpC; rw [up_other (by decide), up_other (by decide), up_other (by decide)]; exact h.c0.2⟩, fun j hj => by rw [up_other (by omega)]; exact h.c1 j hj, ?_, ?_, ?_⟩
  · obtain ⟨y1, y2, y3, y4, y5, y6, y7, y8⟩ := hl3.keep hK4 (blk_ne hl3.hkd hL3 (by decide)) (blk_ne hl3.hmu hL3 (by decide)) (blk_ne hhe3 hL3 (by decide)) (blk_ne hl3.hms hL3 (by decide)) (fun j e1 e2 => own_ne om3 hL3 (by decide) (by rw [e1, e2]))
    exact ⟨v, ⟨y1, y2, y3, y4, y5, y6, y7, by omega⟩, s1, s2, s3, s4⟩
  · rw [up_other (by decide)]
    exact ⟨n1, x1, hK4.own o13 (fun j e1 e2 => own_ne o13 hL3 (by decide) (by rw [e1, e2])), by omega, t1⟩
  · rw [up_same]
    refine ⟨n', xs', hK4.own ho (fun j e1 e2 => own_ne ho hL3 (by decide) (by rw [e1, e2])), hn, fun j e => ?_, hsc⟩
    rcases hs j e with e2 | e2
    · exact t2.1 j e2
    · exact h.new j (by have := h.kp.size; omega)
theorem LQ.span (h : LQ S B k w0 w g s r st l lt q) (v1 v2 v3 : Value) (h1 : v1.oneCell' = true := by rfl) (h2 : v2.oneCell' = true := by rfl) (h3 : v3.oneCell' = true := by rfl) : LQ S B k w0 (((w.setCell ⟨g, 19, none⟩ v1).setCell ⟨g, 20, none⟩ v2).setCell ⟨g, 21, none⟩ v3) g s (up (up (up r 19 v1) 20 v2) 21 v3) st l lt q :=
  h.step' (((h.la.up19 v1).up20 v2).up21 v3) (fun j hj => by rw [up_other (by omega), up_other (by omega), up_other (by omega)]) ⟨h1, h2, h3⟩ (h.tr.out (fun j a b => by rw [up_other (by omega), up_other (by omega), up_other (by omega)]))
end
theorem SM.begin {s : ByteArray} {l : List Int} (hS : Sfx s l) (h0 : l ≠ []) (h42 : hd l ≠ 42) (h : Lib.hasPrefix (s.extract (ps s l.tail) s.size).data.toList [32, 115, 111, 117, 114, 99, 101, 77, 97, 112, 112, 105, 110, 103, 85, 82, 76, 61] = true) : SM s (ps s l.tail + 18) l := by
  have hx : (s.extract (ps s l.tail) s.size).data.toList = encs l.tail := by
    have hz : s.data.toList.length = s.size := by simp
    rw [Lib.extract_data, List.take_of_length_le (by rw [List.length_drop]; omega), hS.tl.bytes]
  rw [hx] at h
  have hp : [32, 115, 111, 117, 114, 99, 101, 77, 97, 112, 112, 105, 110, 103, 85, 82, 76, 61] <+: encs l.tail := by
    rw [← List.isPrefixOf_iff_prefix]; exact h
  obtain ⟨rest, hr⟩ := pre_codes _ (by decide) l.tail hS.tl.all hp
  cases l with
  | nil => exact absurd rfl h0
  | cons c t =>
    simp only [List.tail_cons] at hr hS ⊢
    have hT := hS.tl
    simp only [List.tail_cons] at hT
    refine .inr (.inr ⟨c :: [32, 115, 111, 117, 114, 99, 101, 77, 97, 112, 112, 105, 110, 103, 85, 82, 76, 61], rest, by rw [hr]; rfl, ?_, ?_⟩)
    · intro x hx
      rcases List.mem_cons.1 hx with rfl | hx
      · exact h42
      · intro e
        rw [e] at hx
        exact absurd hx (by decide)
    · rw [hr] at hT ⊢
      exact ps_append hT
/-- What consumeToEndOfMultiLineComment leaves. -/
def EP (S : Nat → Prop) (B : Nat) (k : LK) (w0 : World) (g : Nat) (s : ByteArray) (r : Nat → Value) (st : Nat) (R lt : List Int) (q : Nat) (e : Ending) (w' : World) : Prop :=
  e = .returned (.tuple #[]) ∧ ∃ r', LQ S B k w0 w' g s r' st R lt (q + 2) ∧ Out 17 21 r r'
/-- Its loop. -/
def EK (S : Nat → Prop) (B : Nat) (k : LK) (w0 : World) (g : Nat) (s : ByteArray) (r : Nat → Value) (st : Nat) (R lt : List Int) (q H a : Nat) (b : Int) (u : Nat) (n : Nat) (w : World) : Prop :=
  ∃ li, li.length = n ∧ closeF li = some R ∧ a ≤ ps s li ∧ SM s u li ∧ LQ S B k w0 w g s r st li lt q ∧ w.heap[H]? = some (.cells #[.int .i32 a, .int .i32 b] 50 (0, 0))
end Go.Proofs.YtedckphklebndaaGreatDoor
