/- The laws' Lines, walked. Conditions: a plain text of at most 2^30 bytes without carriage returns and form feeds; ends that are not negative. -/
import Derived.Test.YtedckphklebndaaGreatDoorQGL3
import Derived.Test.YtedckphklebndaaGreatDoorQGY5
namespace Go.Proofs.YtedckphklebndaaGreatDoor
open Go Go.RowKit
theorem Ln.append {a b c d : List Int} (h : Ln a b) (k : Ln c d) : Ln (a ++ c) (b ++ d) := by
  induction h with
  | nil => exact k
  | cons hc _ ih => exact .cons hc ih
  | lf _ ih => exact .lf ih
  | ff _ ih => exact .ff ih
  | cr _ ih => exact .cr ih
/-- The ends in memory. -/
def EndsAt (w : World) (p : Option Addr) (n : Nat) : Prop := n = 0 ∨ ∃ b o, p = some ⟨b, o, none⟩ ∧ ∀ j, j < n → ∃ e : Int, 0 ≤ e ∧ w.cell? ⟨b, o + j, none⟩ = some (.int .i64 e)
theorem ba_append (a b : ByteArray) : (a ++ b).data.toList = a.data.toList ++ b.data.toList := by
  rw [ByteArray.data_append, Array.toList_append]
theorem ext_byte {s : ByteArray} {i : Nat} (h : i < s.size) : (s.extract i (i + 1)).data.toList = [s[i]'h] := by
  have h1 := list_get_ba s i h
  rw [Lib.extract_data, show i + 1 - i = 1 by omega]
  have hl : i < s.data.toList.length := by simpa using h
  rw [List.drop_eq_getElem_cons hl, List.take_succ_cons, List.take_zero]
  rw [List.getElem?_eq_getElem hl] at h1
  rw [Option.some.inj h1]
theorem LI.byte {s out : ByteArray} {l a b t : List Int} {q : List UInt8} {i : Nat} (hl : ∀ c ∈ l, c ≠ 13 ∧ c ≠ 12) (hlt : i < s.size) (hx : (s[i]'hlt).toNat ≠ 10) (hal : a ++ t = l) (hLn : Ln a b) (hB : BY s i q t) (ho : out.data.toList ++ q = encs b) (hr : RnAll b) :
    ∃ a' b' q' t', a' ++ t' = l ∧ Ln a' b' ∧ BY s (i + 1) q' t' ∧ (out ++ s.extract i (i + 1)).data.toList ++ q' = encs b' ∧ RnAll b' := by
  cases q with
  | cons b0 q =>
    have hb := BY.byte hB hlt
    exact ⟨a, b, q, t, hal, hLn, hB.more.1, by rw [ba_append, ext_byte hlt, hb, ← ho]; simp, hr⟩
  | nil =>
    cases t with
    | nil => exact absurd hlt (by rw [BY.lt hB]; simp)
    | cons c t =>
      have hn := hB.next
      have hc := hn.2 hlt
      have hrc := hB.2.2.1.head
      have hcl := hl c (by rw [← hal]; simp)
      have hnl : isNL c = false := by
        unfold isNL
        simp only [Bool.or_eq_false_iff, beq_eq_false_iff_ne]
        refine ⟨⟨?_, hcl.1⟩, hcl.2⟩
        rintro rfl
        rw [show lead 10 = 10 from rfl] at hc
        omega
      refine ⟨a ++ [c], b ++ [c], (enc c).tail, t, by rw [← hal]; simp, hLn.append (.cons hnl .nil), hn.1, ?_, hr.append (RnAll.cons hrc RnAll.nil)⟩
      obtain ⟨tl, he⟩ := enc_lead hrc
      have h1 : s[i]'hlt = (lead c).toNat.toUInt8 := by
        apply UInt8.toNat_inj.1
        have := toNat_u8 (lead c) (lead_byte hrc).1 (lead_byte hrc).2
        omega
      rw [ba_append, ext_byte hlt, h1, encs_append, ← ho]
      simp [encs, he]
theorem LI.line {s : ByteArray} {t : List Int} {q : List UInt8} {i : Nat} (hlt : i < s.size) (hx : (s[i]'hlt).toNat = 10) (hB : BY s i q t) : ∃ t', q = [] ∧ t = 10 :: t' ∧ BY s (i + 1) [] t' := by
  cases q with
  | cons b0 q => have := hB.more.2 hlt; omega
  | nil =>
    cases t with
    | nil => exact absurd hlt (by rw [BY.lt hB]; simp)
    | cons c t =>
      have hn := hB.next
      have hc := hn.2 hlt
      have hrc := hB.2.2.1.head
      have : c = 10 := by
        by_cases h128 : c < 128
        · rw [lead_low h128] at hc; omega
        · have := lead_high hrc (by omega); omega
      subst this
      refine ⟨t, rfl, rfl, ?_⟩
      have := hn.1
      rw [show (enc 10).tail = [] by rw [enc_one (by decide) (by decide)]; rfl] at this
      exact this
def LI (w0 : World) (s : ByteArray) (l : List Int) (n : Nat) (x y z : Value) (w : World) : Prop :=
  w = w0 ∧ ∃ (i k : Nat) (out : ByteArray) (a b : List Int) (q : List UInt8) (t : List Int), x = .string out ∧ y = .int .i64 (k : Nat) ∧ z = .int .i64 (i : Nat) ∧ n = s.size - i ∧ k ≤ i ∧ a ++ t = l ∧ Ln a b ∧ BY s i q t ∧ out.data.toList ++ q = encs b ∧ out.size ≤ 2 * i ∧ RnAll b
theorem LI.push {w : World} {s out : ByteArray} {l a b t y : List Int} {i k' : Nat} {z : ByteArray} (hk : k' ≤ i + 1) (hal : a ++ [10] ++ t = l) (hLn : Ln a b) (hy : Ln [10] y) (hB : BY s (i + 1) [] t) (ho : out.data.toList = encs b) (hsz : out.size ≤ 2 * i) (hr : RnAll b) (hz : z.data.toList = encs y) {kk : Int} (hkk : kk = (k' : Nat) := by rfl) :
    LI w s l (s.size - (i + 1)) (.string (out ++ z)) (.int .i64 kk) (.int .i64 ((i : Int) + 1)) w := by
  have hry : RnAll y := by
    have : y = [10] ∨ y = [12] ∨ y = [13, 10] := by
      cases hy with
      | cons h _ => cases h
      | lf h => cases h; exact .inl rfl
      | ff h => cases h; exact .inr (.inl rfl)
      | cr h => cases h; exact .inr (.inr rfl)
    have r10 : Rn 10 := ⟨by decide, by decide, by decide⟩
    have r12 : Rn 12 := ⟨by decide, by decide, by decide⟩
    have r13 : Rn 13 := ⟨by decide, by decide, by decide⟩
    rcases this with rfl | rfl | rfl
    · exact RnAll.cons r10 RnAll.nil
    · exact RnAll.cons r12 RnAll.nil
    · exact RnAll.cons r13 (RnAll.cons r10 RnAll.nil)
  have hzs : z.size ≤ 2 := by
    have h1 : z.size = (encs y).length := by rw [← hz]; simp
    cases hy with
    | cons h _ => cases h
    | lf h => cases h; rw [h1, show encs [10] = enc 10 by simp [encs], enc_one (by decide) (by decide)]; decide
    | ff h => cases h; rw [h1, show encs [12] = enc 12 by simp [encs], enc_one (by decide) (by decide)]; decide
    | cr h => cases h; rw [h1, show encs [13, 10] = enc 13 ++ enc 10 by simp [encs], enc_one (by decide) (by decide), enc_one (by decide) (by decide)]; decide
  exact ⟨rfl, i + 1, k', out ++ z, a ++ [10], b ++ y, [], t, rfl, by rw [hkk], by simp, rfl, hk, hal, hLn.append hy, hB, by rw [ba_append, ho, hz, encs_append, List.append_nil], by rw [ByteArray.size_append]; omega, hr.append hry⟩
set_option maxRecDepth 100000 in
set_option maxHeartbeats 8000000 in
theorem Lines_calls {s : ByteArray} {l : List Int} (h : Wt s l) (hs : s.size ≤ 1073741824) (hl : ∀ c ∈ l, c ≠ 13 ∧ c ≠ 12) {w : World} {p : Option Addr} {n c : Nat} (hE : EndsAt w p n) :
    Calls Tryz.prog 19 #[.string s, .slice p n c] w fun e w' => ∃ (R : ByteArray) (b : List Int), e = .returned (.string R) ∧ Wt R b ∧ Ln l b ∧ R.size ≤ 2 * s.size ∧ w' = w := by
  go_enter Tryz.func19, Tryz.ntmps19
  go_wp2_with fail
  go_loopg [5, 6, 11] s.size (fun n x y z wr => LI w s l n x y z wr)
  case atStart => exact ⟨rfl, 0, 0, ⟨#[]⟩, [], [], [], l, rfl, rfl, rfl, rfl, Nat.le_refl _, rfl, .nil, by have := BY.start h.sfx; rw [h.ps] at this; exact this, rfl, Nat.le_refl _, RnAll.nil⟩
  case round =>
    obtain ⟨hw, i, k, out, a, b, q, t, rfl, rfl, rfl, hn, hk, hal, hLn, hB, ho, hsz, hrn⟩ := hrel
    subst wr
    have HN := Lib.hid hn
    have HAL := Lib.hid hal
    have HB := Lib.hid hB
    have HO := Lib.hid ho
    have HLN := Lib.hid hLn
    have HRN := Lib.hid hrn
    clear hn hal ho hLn hrn
    have hle := hB.1
    by_cases hlt : i < s.size
    · obtain ⟨x, hx⟩ : ∃ x : Nat, ∀ hi : i < s.size, ((s[i]'hi).toNat) = x := ⟨(s[i]'hlt).toNat, fun _ => rfl⟩
      have hx3 : x < 256 := by rw [← hx hlt]; exact UInt8.toNat_lt _
      have hi1 : (i : Int) < s.size := by omega
      have hi2 : (i : Int) + 1 ≤ s.size := by omega
      have hi0 : (0 : Int) ≤ i := by omega
      have hi3 : (i : Int) ≤ (i : Int) + 1 := by omega
      have htn : ((i : Int) + 1).toNat = i + 1 := by omega
      by_cases h10 : x = 10
      · have hxx : (s[i]'hlt).toNat = 10 := by rw [hx hlt]; exact h10
        obtain ⟨t', hq, ht, hB'⟩ := LI.line hlt hxx HB.out
        have HB' := Lib.hid hB'
        have HO' : Hid (out.data.toList = encs b) := Lib.hid (by have := HO.out; rw [hq, List.append_nil] at this; exact this)
        have HA' : Hid (a ++ [10] ++ t' = l) := Lib.hid (by have := HAL.out; rw [ht] at this; rw [← this]; simp)
        have hX : Hid (∀ hi : i < s.size, ((s[i]'hi).toNat) = x) := Lib.hid hx
        subst h10
        clear hxx hq ht hB' hB
        rcases hE with hn0 | ⟨bb, oo, rfl, hcells⟩
        · subst hn0
          go_wp2_with fail
          go_roundg (s.size - (i + 1))
          case measure => have := HN.out; omega
          case rel => exact LI.push (k' := k) (y := [13, 10]) (by omega) HA'.out HLN.out (.cr .nil) HB'.out HO'.out hsz HRN.out rfl
        · by_cases hn0 : n = 0
          · subst hn0
            go_wp2_with fail
            go_roundg (s.size - (i + 1))
            case measure => have := HN.out; omega
            case rel => exact LI.push (k' := k) (y := [13, 10]) (by omega) HA'.out HLN.out (.cr .nil) HB'.out HO'.out hsz HRN.out rfl
          · have hnp : 0 < n := by omega
            obtain ⟨e, he0, hec⟩ := hcells (k % n) (Nat.mod_lt _ hnp)
            have hn1 : (0 : Int) < n := by omega
            have hmod : (k : Int).tmod (n : Int) = ((k % n : Nat) : Int) := rfl
            have hm1 : ((k % n : Nat) : Int) < n := by have := Nat.mod_lt k hnp; omega
            have hm0 : (0 : Int) ≤ ((k % n : Nat) : Int) := by omega
            have hnz : ((n : Int) == 0) = false := by simp only [beq_eq_false_iff_ne]; omega
            have h3 : e.tmod 3 = 0 ∨ e.tmod 3 = 1 ∨ e.tmod 3 = 2 := by
              rw [Int.tmod_eq_emod_of_nonneg he0]; omega
            rcases h3 with h3 | h3 | h3
            · go_wp2_with fail
              go_roundg (s.size - (i + 1))
              case measure => have := HN.out; omega
              case rel => exact LI.push (k' := k + 1) (y := [13, 10]) (by omega) HA'.out HLN.out (.cr .nil) HB'.out HO'.out hsz HRN.out rfl (by simp)
            · go_wp2_with fail
              go_roundg (s.size - (i + 1))
              case measure => have := HN.out; omega
              case rel => exact LI.push (k' := k + 1) (y := [12]) (by omega) HA'.out HLN.out (.ff .nil) HB'.out HO'.out hsz HRN.out rfl (by simp)
            · go_wp2_with fail
              go_roundg (s.size - (i + 1))
              case measure => have := HN.out; omega
              case rel => exact LI.push (k' := k + 1) (y := [10]) (by omega) HA'.out HLN.out (.lf .nil) HB'.out HO'.out hsz HRN.out rfl (by simp)
      · have k1 : ((x : Int) != 10) = true := by simp only [bne_iff_ne]; omega
        have hxx : (s[i]'hlt).toNat ≠ 10 := by rw [hx hlt]; exact h10
        obtain ⟨a', b', q', t', g1, g2, g3, g4, g5⟩ := LI.byte hl hlt hxx HAL.out HLN.out HB.out HO.out HRN.out
        have G1 := Lib.hid g1
        have G2 := Lib.hid g2
        have G3 := Lib.hid g3
        have G4 := Lib.hid g4
        have G5 := Lib.hid g5
        clear hB hxx g1 g2 g3 g4 g5
        go_wp2_with fail
        go_roundg (s.size - (i + 1))
        case measure => have := HN.out; omega
        case rel => exact ⟨rfl, i + 1, k, out ++ s.extract i (i + 1), a', b', q', t', rfl, rfl, by simp, rfl, by omega, G1.out, G2.out, G3.out, G4.out, by rw [ByteArray.size_append, ByteArray.size_extract]; omega, G5.out⟩
    · have hend : q = [] ∧ t = [] := by
        have := (not_congr (BY.lt hB)).1 hlt
        by_cases e : q = []
        · exact ⟨e, by by_cases e2 : t = []; exact e2; exact absurd (.inr e2) this⟩
        · exact absurd (.inl e) this
      obtain ⟨rfl, rfl⟩ := hend
      have hi : i = s.size := by omega
      subst hi
      have HA2 : Hid (a = l) := Lib.hid (by have := HAL.out; rwa [List.append_nil] at this)
      have HO2 : Hid (out.data.toList = encs b) := Lib.hid (by have := HO.out; rwa [List.append_nil] at this)
      clear hB
      go_wp2_with fail
      go_ret
      exact ⟨out, b, rfl, ⟨HO2.out, HRN.out⟩, by rw [← HA2.out]; exact HLN.out, hsz, rfl⟩
end Go.Proofs.YtedckphklebndaaGreatDoor
