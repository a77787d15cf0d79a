/- Texts as lists of code points: a plain text is the list of its code points, and a place in it is what is left behind it. No condition; no program in sight. -/
import Derived.Lib.RuneBytes
import Derived.Lib.TrimUEq
import Derived.Test.YtedckphklebndaaGreatDoorProg
import Derived.WalkKit
import Derived.Below
import Derived.Deep.Draws
import Derived.Laws.BytesArg
import Derived.Lib.Hide
import Derived.Outline
namespace Go.Proofs.YtedckphklebndaaGreatDoor
open Go

/-- A code point that a plain text may have. -/
def Rn (c : Int) : Prop := 1 ≤ c ∧ c ≤ 1114111 ∧ ¬ (55296 ≤ c ∧ c ≤ 57343)
def enc (c : Int) : List UInt8 := Lib.encodeRune c
def wd (c : Int) : Nat := (enc c).length
def encs : List Int → List UInt8
  | [] => []
  | c :: l => enc c ++ encs l
def RnAll (l : List Int) : Prop := ∀ c ∈ l, Rn c

/-- What is left of a text at a place. -/
structure Sfx (s : ByteArray) (l : List Int) : Prop where
  pre : ∃ p, s.data.toList = p ++ encs l
  all : RnAll l

/-- The place. -/
def ps (s : ByteArray) (l : List Int) : Nat := s.size - (encs l).length
def hd : List Int → Int
  | [] => -1
  | c :: _ => c
def pk (l : List Int) (k : Nat) : Int := hd (l.drop k)

@[simp] theorem hd_nil : hd [] = -1 := rfl
@[simp] theorem hd_cons (c : Int) (l : List Int) : hd (c :: l) = c := rfl
@[simp] theorem pk_zero (l : List Int) : pk l 0 = hd l := by simp [pk]
@[simp] theorem pk_nil (k : Nat) : pk [] k = -1 := by simp [pk]
@[simp] theorem pk_cons (c : Int) (l : List Int) (k : Nat) : pk (c :: l) (k + 1) = pk l k := by simp [pk]

theorem encs_append (a b : List Int) : encs (a ++ b) = encs a ++ encs b := by
  induction a with
  | nil => rfl
  | cons c l ih => simp [encs, ih]
theorem RnAll.tail {c : Int} {l : List Int} (h : RnAll (c :: l)) : RnAll l := fun x hx => h x (List.mem_cons_of_mem _ hx)
theorem RnAll.head {c : Int} {l : List Int} (h : RnAll (c :: l)) : Rn c := h c (List.mem_cons_self ..)
theorem RnAll.cons {c : Int} {l : List Int} (h : Rn c) (k : RnAll l) : RnAll (c :: l) := fun x hx => by
  rcases List.mem_cons.1 hx with rfl | hx
  · exact h
  · exact k x hx
theorem RnAll.nil : RnAll [] := fun _ h => by cases h
theorem RnAll.append {a b : List Int} (h : RnAll a) (k : RnAll b) : RnAll (a ++ b) := fun x hx => by
  rcases List.mem_append.1 hx with hx | hx
  · exact h x hx
  · exact k x hx
theorem RnAll.left {a b : List Int} (h : RnAll (a ++ b)) : RnAll a := fun x hx => h x (List.mem_append_left _ hx)
theorem RnAll.right {a b : List Int} (h : RnAll (a ++ b)) : RnAll b := fun x hx => h x (List.mem_append_right _ hx)

theorem wd_pos (c : Int) : 1 ≤ wd c ∧ wd c ≤ 4 := by
  have := Lib.runeCells_le c
  rw [Lib.runeCells_length] at this
  exact this
theorem wd_one {c : Int} (h0 : 0 ≤ c) (h : c < 128) : wd c = 1 := by
  unfold wd enc Lib.encodeRune
  rw [Lib.encodeRuneZ_one h0 (by omega)]; rfl
theorem enc_one {c : Int} (h0 : 0 ≤ c) (h : c < 128) : enc c = [c.toNat.toUInt8] := by
  unfold enc Lib.encodeRune
  rw [Lib.encodeRuneZ_one h0 (by omega)]; rfl
theorem enc_two {c : Int} (h0 : 128 ≤ c) (h1 : c ≤ 2047) : enc c = [(192 + c / 64).toNat.toUInt8, (128 + c % 64).toNat.toUInt8] := by
  unfold enc Lib.encodeRune
  rw [Lib.encodeRuneZ_two h0 h1]; rfl
theorem enc_three {c : Int} (h : (2048 ≤ c ∧ c < 55296) ∨ (57343 < c ∧ c ≤ 65535)) : enc c = [(224 + c / 4096).toNat.toUInt8, (128 + c / 64 % 64).toNat.toUInt8, (128 + c % 64).toNat.toUInt8] := by
  unfold enc Lib.encodeRune
  rw [Lib.encodeRuneZ_three h]; rfl
theorem enc_four {c : Int} (h0 : 65536 ≤ c) (h1 : c ≤ 1114111) : enc c = [(240 + c / 262144).toNat.toUInt8, (128 + c / 4096 % 64).toNat.toUInt8, (128 + c / 64 % 64).toNat.toUInt8, (128 + c % 64).toNat.toUInt8] := by
  unfold enc Lib.encodeRune
  rw [Lib.encodeRuneZ_four h0 h1]; rfl
/-- The four kinds. -/
theorem Rn.kinds {c : Int} (h : Rn c) : (0 ≤ c ∧ c < 128) ∨ (128 ≤ c ∧ c ≤ 2047) ∨ ((2048 ≤ c ∧ c < 55296) ∨ (57343 < c ∧ c ≤ 65535)) ∨ (65536 ≤ c ∧ c ≤ 1114111) := by
  obtain ⟨h1, h2, h3⟩ := h; omega

theorem toNat_u8 (z : Int) (h0 : 0 ≤ z) (h1 : z < 256) : ((z.toNat.toUInt8).toNat : Int) = z := by
  simp only [Nat.toUInt8_eq, UInt8.toNat_ofNat']
  omega

/-- The first byte of a code point. -/
def lead (c : Int) : Int := if c < 128 then c else if c ≤ 2047 then 192 + c / 64 else if c ≤ 65535 then 224 + c / 4096 else 240 + c / 262144
theorem lead_low {c : Int} (h : c < 128) : lead c = c := by simp [lead, h]
theorem lead_high {c : Int} (hc : Rn c) (h : 128 ≤ c) : 194 ≤ lead c ∧ lead c < 245 := by
  obtain ⟨_, _, _⟩ := hc
  unfold lead
  repeat' split
  all_goals omega
theorem enc_lead {c : Int} (h : Rn c) : ∃ t, enc c = (lead c).toNat.toUInt8 :: t := by
  rcases h.kinds with ⟨a, b⟩ | ⟨a, b⟩ | a | ⟨a, b⟩
  · exact ⟨_, by rw [enc_one a b, lead_low b]⟩
  · refine ⟨_, by rw [enc_two a b]; congr 3; unfold lead; rw [if_neg (by omega), if_pos b]⟩
  · refine ⟨_, by rw [enc_three a]; congr 3; unfold lead; rw [if_neg (by omega), if_neg (by omega), if_pos (by omega)]⟩
  · refine ⟨_, by rw [enc_four a b]; congr 3; unfold lead; rw [if_neg (by omega), if_neg (by omega), if_neg (by omega)]⟩
theorem lead_byte {c : Int} (h : Rn c) : 0 ≤ lead c ∧ lead c < 256 := by
  by_cases a : c < 128
  · rw [lead_low a]; obtain ⟨_, _, _⟩ := h; omega
  · have := lead_high h (by omega); omega

/-! ### places -/
theorem ps_le (s : ByteArray) (l : List Int) : ps s l ≤ s.size := by unfold ps; omega
@[simp] theorem ps_nil (s : ByteArray) : ps s [] = s.size := by simp [ps, encs]
theorem Sfx.tail {s : ByteArray} {c : Int} {l : List Int} (h : Sfx s (c :: l)) : Sfx s l := by
  obtain ⟨⟨p, hp⟩, ha⟩ := h
  exact ⟨⟨p ++ enc c, by rw [hp]; simp [encs]⟩, ha.tail⟩
theorem Sfx.tl {s : ByteArray} {l : List Int} (h : Sfx s l) : Sfx s l.tail := by
  cases l with
  | nil => exact h
  | cons c l => exact h.tail
theorem Sfx.drop {s : ByteArray} {l : List Int} (h : Sfx s l) (k : Nat) : Sfx s (l.drop k) := by
  induction k generalizing l with
  | zero => simpa using h
  | succ k ih =>
    cases l with
    | nil => simpa using h
    | cons c l => simpa using ih h.tail
theorem Sfx.append {s : ByteArray} {a l : List Int} (h : Sfx s (a ++ l)) : Sfx s l := by
  have := h.drop a.length
  simpa using this
theorem Sfx.nil (s : ByteArray) : Sfx s [] := ⟨⟨s.data.toList, by simp [encs]⟩, RnAll.nil⟩
theorem Sfx.fits {s : ByteArray} {l : List Int} (h : Sfx s l) : (encs l).length ≤ s.size := by
  obtain ⟨⟨p, hp⟩, _⟩ := h
  have := congrArg List.length hp
  rw [List.length_append, ← Lib.size_eq] at this
  omega
theorem Sfx.bytes {s : ByteArray} {l : List Int} (h : Sfx s l) : s.data.toList.drop (ps s l) = encs l := by
  have hf := h.fits
  obtain ⟨⟨p, hp⟩, _⟩ := h
  have hl := congrArg List.length hp
  rw [List.length_append, ← Lib.size_eq] at hl
  have : ps s l = p.length := by unfold ps; omega
  rw [this, hp]; simp
theorem ps_cons {s : ByteArray} {c : Int} {l : List Int} (h : Sfx s (c :: l)) : ps s l = ps s (c :: l) + wd c := by
  have := h.fits
  unfold ps
  simp only [encs, List.length_append] at this ⊢
  unfold wd
  omega
theorem ps_lt {s : ByteArray} {c : Int} {l : List Int} (h : Sfx s (c :: l)) : ps s (c :: l) < s.size := by
  have := ps_cons h; have := ps_le s l; have := wd_pos c; omega
theorem ps_tail_le {s : ByteArray} {l : List Int} (h : Sfx s l) : ps s l ≤ ps s l.tail ∧ ps s l.tail ≤ ps s l + 4 := by
  cases l with
  | nil => simp
  | cons c l => have := ps_cons h; have := wd_pos c; simp only [List.tail_cons]; omega
theorem ps_append {s : ByteArray} {a l : List Int} (h : Sfx s (a ++ l)) : ps s l = ps s (a ++ l) + (encs a).length := by
  have := h.fits
  unfold ps
  rw [encs_append, List.length_append] at *
  omega
theorem ps_eq_size {s : ByteArray} {l : List Int} (h : Sfx s l) : ps s l = s.size ↔ l = [] := by
  constructor
  · intro e
    cases l with
    | nil => rfl
    | cons c l => have := ps_lt h; omega
  · rintro rfl; simp
theorem ps_inj {s : ByteArray} {a l : List Int} (h : Sfx s (a ++ l)) (e : ps s (a ++ l) = ps s l) : a = [] := by
  cases a with
  | nil => rfl
  | cons c a =>
    have := ps_append h
    have h2 : (encs (c :: a)).length = wd c + (encs a).length := by simp [encs, wd]
    have := wd_pos c
    omega

theorem list_get_ba (s : ByteArray) (i : Nat) (hi : i < s.size) : s.data.toList[i]? = some (s[i]'hi) := by
  rw [List.getElem?_eq_getElem (by rw [← Lib.size_eq]; exact hi)]
  rfl
/-- The byte at a place. -/
theorem byte_at {s : ByteArray} {c : Int} {l : List Int} (h : Sfx s (c :: l)) {i : Nat} (hi : i < s.size) (e : i = ps s (c :: l)) : (((s[i]'hi).toNat : Nat) : Int) = lead c := by
  have hb := h.bytes
  have h1 := list_get_ba s i hi
  obtain ⟨t, ht⟩ := enc_lead h.all.head
  have h2 : (s.data.toList.drop (ps s (c :: l)))[0]? = some ((lead c).toNat.toUInt8) := by rw [hb]; simp [encs, ht]
  rw [List.getElem?_drop, Nat.add_zero, ← e, h1] at h2
  injection h2 with h2
  rw [h2]
  have := lead_byte h.all.head
  exact toNat_u8 _ this.1 this.2

/-! ### the model's decode -/
theorem decodeL_enc {c : Int} (h : Rn c) (t : List UInt8) : Lib.decodeL (enc c ++ t) = (c.toNat, wd c) := by
  rw [Lib.decodeL_N]
  have tn : ∀ z : Int, 0 ≤ z → z < 256 → (z.toNat.toUInt8).toNat = z.toNat := fun z h0 h1 => by
    have := toNat_u8 z h0 h1; omega
  obtain ⟨h1, h2, h3⟩ := h
  rcases Rn.kinds ⟨h1, h2, h3⟩ with ⟨a, b⟩ | ⟨a, b⟩ | a | ⟨a, b⟩
  · have hw := wd_one a b
    rw [hw, enc_one a b]
    simp only [List.cons_append, List.nil_append, List.length_cons, List.getD_cons_zero]
    rw [tn c a (by omega)]
    unfold Lib.decodeN
    rw [if_pos (by omega)]
  · have hw : wd c = 2 := by unfold wd; rw [enc_two a b]; rfl
    rw [hw, enc_two a b]
    simp only [List.cons_append, List.nil_append, List.length_cons, List.getD_cons_zero, List.getD_cons_succ]
    rw [tn _ (by omega) (by omega), tn _ (by omega) (by omega)]
    unfold Lib.decodeN
    rw [if_neg (by omega), if_pos (by omega), if_pos (by omega)]
    apply Prod.ext <;> simp only <;> omega
  · have hw : wd c = 3 := by unfold wd; rw [enc_three a]; rfl
    rw [hw, enc_three a]
    simp only [List.cons_append, List.nil_append, List.length_cons, List.getD_cons_zero, List.getD_cons_succ]
    rw [tn _ (by omega) (by omega), tn _ (by omega) (by omega), tn _ (by omega) (by omega)]
    unfold Lib.decodeN
    rw [if_neg (by omega), if_neg (by omega), if_pos (by omega), if_pos (by omega)]
    apply Prod.ext <;> simp only <;> omega
  · have hw : wd c = 4 := by unfold wd; rw [enc_four a b]; rfl
    rw [hw, enc_four a b]
    simp only [List.cons_append, List.nil_append, List.length_cons, List.getD_cons_zero, List.getD_cons_succ]
    rw [tn _ (by omega) (by omega), tn _ (by omega) (by omega), tn _ (by omega) (by omega), tn _ (by omega) (by omega)]
    unfold Lib.decodeN
    rw [if_neg (by omega), if_neg (by omega), if_neg (by omega), if_pos (by omega), if_pos (by omega)]
    apply Prod.ext <;> simp only <;> omega
theorem decode_at_sfx {s : ByteArray} {c : Int} {l : List Int} (h : Sfx s (c :: l)) : Utf8.decode s (ps s (c :: l)) = (c.toNat, wd c) := by
  rw [← Lib.decodeL_drop, h.bytes]
  exact decodeL_enc h.all.head _

end Go.Proofs.YtedckphklebndaaGreatDoor
/- What single code points are: the tests of the reference and of the package as functions to Bool. No condition; no program in sight. -/
namespace Go.Proofs.YtedckphklebndaaGreatDoor

def isNL (c : Int) : Bool := c == 10 || c == 13 || c == 12
def isSp (c : Int) : Bool := isNL c || c == 9 || c == 32
def isDg (c : Int) : Bool := decide (48 ≤ c) && decide (c ≤ 57)
def strt (c : Int) : Bool := decide (97 ≤ c) && decide (c ≤ 122) || decide (65 ≤ c) && decide (c ≤ 90) || c == 95 || decide (128 ≤ c)
def cont (c : Int) : Bool := strt c || isDg c || c == 45
def escs (a b : Int) : Bool := a == 92 && !isNL b
def idnt (a b c : Int) : Bool := if a = 45 then strt b || b == 45 || escs b c else strt a || escs a b
def cnts (a b c : Int) : Bool := if a = 43 ∨ a = 45 then isDg b || b == 46 && isDg c else isDg a || a == 46 && isDg b
def hexv (c : Int) : Int := if 48 ≤ c ∧ c ≤ 57 then c - 48 else if 97 ≤ c ∧ c ≤ 102 then c - 87 else if 65 ≤ c ∧ c ≤ 70 then c - 55 else -1
def unpr (c : Int) : Bool := decide (0 ≤ c) && decide (c ≤ 8) || c == 11 || decide (14 ≤ c) && decide (c ≤ 31) || c == 127
/-- The package's own tests: a byte 0 too begins a name; what is below 0 cannot be printed. -/
def strt0 (c : Int) : Bool := strt c || c == 0
def cont0 (c : Int) : Bool := strt0 c || isDg c || c == 45
def unpr0 (c : Int) : Bool := decide (c ≤ 8) || c == 11 || decide (14 ≤ c) && decide (c ≤ 31) || c == 127

end Go.Proofs.YtedckphklebndaaGreatDoor
/- The small functions of the reference and of the package on single code points: each returns what the plain test says, and leaves memory alone. No condition. -/
namespace Go.Proofs.YtedckphklebndaaGreatDoor
open Go Go.RowKit
theorem ret_bool {a b : Bool} (h : a = b) : Ending.returned (.bool a) = .returned (.bool b) := by rw [h]
theorem ret_int {k : IntKind} {a b : Int} (h : a = b) : Ending.returned (.int k a) = .returned (.int k b) := by rw [h]
theorem ret_str {a b : ByteArray} (h : a = b) : Ending.returned (.string a) = .returned (.string b) := by rw [h]

set_option maxHeartbeats 1000000 in
theorem isNewline_calls (c : Int) (w : World) : Calls Tryz.prog 63 #[.int .i64 c] w fun e w' => e = .returned (.bool (isNL c)) ∧ w = w' := by
  go_enter Tryz.func63, Tryz.ntmps63
  go_wp2
  all_goals (go_ret; refine ⟨ret_bool ?_, rfl⟩; rw [Bool.eq_iff_iff]; first | (simp [isNL]; done) | (simp [isNL]; omega) | (simp only [beq_iff_eq, beq_eq_false_iff_ne, ne_eq] at *; first | (simp [isNL]; done) | (simp [isNL]; omega)))

set_option maxHeartbeats 1000000 in
theorem isSpace_calls (c : Int) (w : World) : Calls Tryz.prog 37 #[.int .i64 c] w fun e w' => e = .returned (.bool (isSp c)) ∧ w = w' := by
  cases h : isNL c
  all_goals
    go_enter Tryz.func37, Tryz.ntmps37
    go_wp2_with ((go_at_call 63; refine (isNewline_calls _ _).mono ?_; rintro e w' ⟨rfl, rfl⟩))
    all_goals (go_ret; refine ⟨ret_bool ?_, rfl⟩; rw [Bool.eq_iff_iff]; first | (simp [isSp, *]; done) | (simp [isSp, *]; omega) | (simp only [beq_iff_eq, beq_eq_false_iff_ne, ne_eq] at *; first | (simp [isSp, *]; done) | (simp [isSp, *]; omega)))

set_option maxHeartbeats 1000000 in
theorem isDigit_calls (c : Int) (w : World) : Calls Tryz.prog 68 #[.int .i64 c] w fun e w' => e = .returned (.bool (isDg c)) ∧ w = w' := by
  go_enter Tryz.func68, Tryz.ntmps68
  go_wp2
  all_goals (go_ret; refine ⟨ret_bool ?_, rfl⟩; rw [Bool.eq_iff_iff]; first | (simp [isDg]; done) | (simp [isDg]; omega) | (simp only [beq_iff_eq, beq_eq_false_iff_ne, ne_eq] at *; first | (simp [isDg]; done) | (simp [isDg]; omega)))

set_option maxHeartbeats 1000000 in
theorem Starts_calls (c : Int) (w : World) : Calls Tryz.prog 67 #[.int .i64 c] w fun e w' => e = .returned (.bool (strt c)) ∧ w = w' := by
  go_enter Tryz.func67, Tryz.ntmps67
  go_wp2
  all_goals (go_ret; refine ⟨ret_bool ?_, rfl⟩; rw [Bool.eq_iff_iff]; first | (simp [strt]; done) | (simp [strt]; omega) | (simp only [beq_iff_eq, beq_eq_false_iff_ne, ne_eq] at *; first | (simp [strt]; done) | (simp [strt]; omega)))

set_option maxHeartbeats 1000000 in
theorem Continues_calls (c : Int) (w : World) : Calls Tryz.prog 40 #[.int .i64 c] w fun e w' => e = .returned (.bool (cont c)) ∧ w = w' := by
  cases h : strt c <;> cases h2 : isDg c
  all_goals
    go_enter Tryz.func40, Tryz.ntmps40
    go_wp2_with (first | (go_at_call 67; refine (Starts_calls _ _).mono ?_; rintro e w' ⟨rfl, rfl⟩) | (go_at_call 68; refine (isDigit_calls _ _).mono ?_; rintro e w' ⟨rfl, rfl⟩))
    all_goals (go_ret; refine ⟨ret_bool ?_, rfl⟩; rw [Bool.eq_iff_iff]; first | (simp [cont, *]; done) | (simp [cont, *]; omega) | (simp only [beq_iff_eq, beq_eq_false_iff_ne, ne_eq] at *; first | (simp [cont, *]; done) | (simp [cont, *]; omega)))

set_option maxHeartbeats 1000000 in
theorem escapes_calls (a : Int) (b : Int) (w : World) : Calls Tryz.prog 41 #[.int .i64 a, .int .i64 b] w fun e w' => e = .returned (.bool (escs a b)) ∧ w = w' := by
  cases h : isNL b <;> by_cases h2 : a = 92
  all_goals
    go_enter Tryz.func41, Tryz.ntmps41
    go_wp2_with ((go_at_call 63; refine (isNewline_calls _ _).mono ?_; rintro e w' ⟨rfl, rfl⟩))
    all_goals (go_ret; refine ⟨ret_bool ?_, rfl⟩; rw [Bool.eq_iff_iff]; first | (simp [escs, *]; done) | (simp [escs, *]; omega) | (simp only [beq_iff_eq, beq_eq_false_iff_ne, ne_eq] at *; first | (simp [escs, *]; done) | (simp [escs, *]; omega)))

set_option maxHeartbeats 1000000 in
theorem isUnprintable_calls (c : Int) (w : World) : Calls Tryz.prog 92 #[.int .i64 c] w fun e w' => e = .returned (.bool (unpr c)) ∧ w = w' := by
  go_enter Tryz.func92, Tryz.ntmps92
  go_wp2
  all_goals (go_ret; refine ⟨ret_bool ?_, rfl⟩; rw [Bool.eq_iff_iff]; first | (simp [unpr]; done) | (simp [unpr]; omega) | (simp only [beq_iff_eq, beq_eq_false_iff_ne, ne_eq] at *; first | (simp [unpr]; done) | (simp [unpr]; omega)))

set_option maxHeartbeats 1000000 in
theorem IsNameStart_calls (c : Int) (w : World) : Calls Tryz.prog 30 #[.int .i32 c] w fun e w' => e = .returned (.bool (strt0 c)) ∧ w = w' := by
  go_enter Tryz.func30, Tryz.ntmps30
  go_wp2
  all_goals (go_ret; refine ⟨ret_bool ?_, rfl⟩; rw [Bool.eq_iff_iff]; first | (simp [strt0, strt]; done) | (simp [strt0, strt]; omega) | (simp only [beq_iff_eq, beq_eq_false_iff_ne, ne_eq] at *; first | (simp [strt0, strt]; done) | (simp [strt0, strt]; omega)))

set_option maxHeartbeats 1000000 in
theorem isWhitespace_calls (c : Int) (w : World) : Calls Tryz.prog 34 #[.int .i32 c] w fun e w' => e = .returned (.bool (isSp c)) ∧ w = w' := by
  go_enter Tryz.func34, Tryz.ntmps34
  go_wp2
  all_goals (go_ret; refine ⟨ret_bool ?_, rfl⟩; rw [Bool.eq_iff_iff]; first | (simp [isSp, isNL]; done) | (simp [isSp, isNL]; omega) | (simp only [beq_iff_eq, beq_eq_false_iff_ne, ne_eq] at *; first | (simp [isSp, isNL]; done) | (simp [isSp, isNL]; omega)))

set_option maxHeartbeats 1000000 in
theorem isNewlineI_calls (c : Int) (w : World) : Calls Tryz.prog 76 #[.int .i32 c] w fun e w' => e = .returned (.bool (isNL c)) ∧ w = w' := by
  go_enter Tryz.func76, Tryz.ntmps76
  go_wp2
  all_goals (go_ret; refine ⟨ret_bool ?_, rfl⟩; rw [Bool.eq_iff_iff]; first | (simp [isNL]; done) | (simp [isNL]; omega) | (simp only [beq_iff_eq, beq_eq_false_iff_ne, ne_eq] at *; first | (simp [isNL]; done) | (simp [isNL]; omega)))

set_option maxHeartbeats 1000000 in
theorem IsNameContinue_calls (c : Int) (w : World) : Calls Tryz.prog 79 #[.int .i32 c] w fun e w' => e = .returned (.bool (cont0 c)) ∧ w = w' := by
  cases h : strt0 c
  all_goals
    go_enter Tryz.func79, Tryz.ntmps79
    go_wp2_with ((go_at_call 30; refine (IsNameStart_calls _ _).mono ?_; rintro e w' ⟨rfl, rfl⟩))
    all_goals (go_ret; refine ⟨ret_bool ?_, rfl⟩; rw [Bool.eq_iff_iff]; first | (simp [cont0, isDg, *]; done) | (simp [cont0, isDg, *]; omega) | (simp only [beq_iff_eq, beq_eq_false_iff_ne, ne_eq] at *; first | (simp [cont0, isDg, *]; done) | (simp [cont0, isDg, *]; omega)))

set_option maxHeartbeats 1000000 in
theorem isNonPrintable_calls (c : Int) (w : World) : Calls Tryz.prog 126 #[.int .i32 c] w fun e w' => e = .returned (.bool (unpr0 c)) ∧ w = w' := by
  go_enter Tryz.func126, Tryz.ntmps126
  go_wp2
  all_goals (go_ret; refine ⟨ret_bool ?_, rfl⟩; rw [Bool.eq_iff_iff]; first | (simp [unpr0]; done) | (simp [unpr0]; omega) | (simp only [beq_iff_eq, beq_eq_false_iff_ne, ne_eq] at *; first | (simp [unpr0]; done) | (simp [unpr0]; omega)))

end Go.Proofs.YtedckphklebndaaGreatDoor
/- Words on memory that the walks share: what a call has kept, but for the blocks of a set. No condition; no program in sight. -/
namespace Go.Proofs.YtedckphklebndaaGreatDoor
open Go Go.RowKit

/-- Of the blocks that were there in w all stand in w', but those of S. -/
structure Keep (S : Nat → Prop) (w w' : World) : Prop where
  os : w'.os = w.os
  tape : w'.tape = w.tape
  output : w'.output = w.output
  size : w.heap.size ≤ w'.heap.size
  block : ∀ k, k < w.heap.size → ¬ S k → w'.heap[k]? = w.heap[k]?

/-- All but one block. -/
abbrev KeepB (g : Nat) (w w' : World) : Prop := Keep (fun k => k = g) w w'
/-- All. -/
abbrev KeepA (w w' : World) : Prop := Keep (fun _ => False) w w'

section
variable {S S' : Nat → Prop} {w w1 w2 : World}
theorem Keep.refl (S : Nat → Prop) (w : World) : Keep S w w := ⟨rfl, rfl, rfl, Nat.le_refl _, fun _ _ _ => rfl⟩
theorem Keep.trans (h : Keep S w w1) (k : Keep S w1 w2) : Keep S w w2 :=
  ⟨k.os.trans h.os, k.tape.trans h.tape, k.output.trans h.output, Nat.le_trans h.size k.size,
    fun i hi hn => (k.block i (Nat.lt_of_lt_of_le hi h.size) hn).trans (h.block i hi hn)⟩
theorem Keep.mono (h : Keep S w w1) (hs : ∀ k, k < w.heap.size → S k → S' k) : Keep S' w w1 :=
  ⟨h.os, h.tape, h.output, h.size, fun i hi hn => h.block i hi (fun x => hn (hs i hi x))⟩
/-- Two steps, the second of which may also have turned what is new. -/
theorem Keep.trans' (h : Keep S w w1) (k : Keep S' w1 w2) (hs : ∀ k, k < w.heap.size → S' k → S k) : Keep S w w2 :=
  ⟨k.os.trans h.os, k.tape.trans h.tape, k.output.trans h.output, Nat.le_trans h.size k.size,
    fun i hi hn => (k.block i (Nat.lt_of_lt_of_le hi h.size) (fun x => hn (hs i hi x))).trans (h.block i hi hn)⟩
theorem Keep.of_below (h : Below w.heap.size w w1) (S : Nat → Prop) : Keep S w w1 := ⟨h.os, h.tape, h.output, h.size, fun i hi _ => h.block i hi⟩
theorem Keep.of_grown {row : Option Nat} (h : w.grownBy w1 row) (S : Nat → Prop) (hr : ∀ k, row = some k → S k) : Keep S w w1 :=
  ⟨h.os, h.tape, h.output, h.size, fun i hi hn => h.block i hi (fun e => hn (hr i e.symm))⟩
theorem Keep.drew (h : Keep S w w1) : Keep S w w1.drew := ⟨h.os, h.tape, h.output, h.size, h.block⟩
theorem Keep.drewN (h : Keep S w w1) (n : Nat) : Keep S w (w1.drewN n) := ⟨h.os, h.tape, h.output, h.size, h.block⟩
theorem Keep.alloc (h : Keep S w w1) (o : Obj) : Keep S w (w1.alloc o) :=
  ⟨h.os, h.tape, h.output, Nat.le_trans h.size (by simp), fun i hi hn => (Below.heap_alloc w1 o i (Nat.lt_of_lt_of_le hi h.size)).trans (h.block i hi hn)⟩
theorem Keep.setCell (h : Keep S w w1) {p : Addr} (hp : p.block < w.heap.size → S p.block) (u : Value) : Keep S w (w1.setCell p u) :=
  ⟨h.os, h.tape, h.output, Nat.le_trans h.size (by simp [World.setCell]), fun i hi hn => (Below.heap_setCell w1 p u i (fun e => hn (by subst e; exact hp hi))).trans (h.block i hi hn)⟩
theorem Keep.blk (h : Keep S w w1) {k : Nat} {o : Obj} (hk : w.heap[k]? = some o) (hn : ¬ S k) : w1.heap[k]? = some o := by
  have hlt : k < w.heap.size := by
    rcases Nat.lt_or_ge k w.heap.size with h | h
    · exact h
    · rw [Array.getElem?_eq_none h] at hk; cases hk
  rw [h.block k hlt hn]; exact hk
theorem Keep.below (h : Keep S w w1) {B : Nat} (hB : B ≤ w.heap.size) (hs : ∀ k, k < w.heap.size → S k → B ≤ k) : Below B w w1 :=
  ⟨h.os, h.tape, h.output, h.size, fun k hk => h.block k (by omega) (fun x => by have := hs k (by omega) x; omega)⟩
theorem Keep.cell (h : Keep S w w1) {p : Addr} {v : Value} (hc : w.cell? p = some v) (hn : ¬ S p.block) : w1.cell? p = some v := by
  have hlt : p.block < w.heap.size := by
    rcases Nat.lt_or_ge p.block w.heap.size with h | h
    · exact h
    · simp [World.cell?, Array.getElem?_eq_none h] at hc
  rw [World.cell?_of_block (w := w) (h.block p.block hlt hn)]; exact hc
theorem Keep.own (h : Keep S w w1) {base : Nat} {e : TypeId} {size : Nat} {v : Value} {n : Nat} {xs : List Value} (ho : w.ownsRow base e size v n xs) (hn : ∀ k, v.ownBlock = some k → ¬ S k) : w1.ownsRow base e size v n xs := by
  refine ⟨ho.1, ?_⟩
  rcases ho.2 with hn' | ⟨g, cap, cur, rfl, hb, hgg, rest⟩
  · exact .inl hn'
  · exact .inr ⟨g, cap, cur, rfl, hb, h.blk hgg (hn g rfl), rest⟩
end

theorem lt_of_blk {w : World} {k : Nat} {o : Obj} (hk : w.heap[k]? = some o) : k < w.heap.size := by
  rcases Nat.lt_or_ge k w.heap.size with h | h
  · exact h
  · rw [Array.getElem?_eq_none h] at hk; cases hk

end Go.Proofs.YtedckphklebndaaGreatDoor
/- The reference's functions that take code points out of bytes and put them into bytes: runeAt, IsPlain, encoded. Conditions: a text of at most 2^47 bytes. -/
namespace Go.Proofs.YtedckphklebndaaGreatDoor
open Go Go.RowKit

theorem w21 (n : Int) (h0 : 0 ≤ n) (h : n < 2 ^ 21) : IntKind.i64.wrap n = n := by rw [IntKind.wrap_i64]; omega
theorem i64_and63 (x : Int) (h0 : 0 ≤ x) (h : x < 2097152) : bits .and .i64 x 63 = x % 64 := bits_mask .i64 21 (by decide) w21 6 (by decide) x h0 h
theorem i64_and31 (x : Int) (h0 : 0 ≤ x) (h : x < 2097152) : bits .and .i64 x 31 = x % 32 := bits_mask .i64 21 (by decide) w21 5 (by decide) x h0 h
theorem i64_and15 (x : Int) (h0 : 0 ≤ x) (h : x < 2097152) : bits .and .i64 x 15 = x % 16 := bits_mask .i64 21 (by decide) w21 4 (by decide) x h0 h
theorem i64_and7 (x : Int) (h0 : 0 ≤ x) (h : x < 2097152) : bits .and .i64 x 7 = x % 8 := bits_mask .i64 21 (by decide) w21 3 (by decide) x h0 h
theorem i64_or128 (y : Int) (h0 : 0 ≤ y) (h : y < 64) : bits .or .i64 128 y = 128 + y := bits_join .i64 21 (by decide) w21 6 128 y (by decide) (by decide) (by decide) h0 h (by omega)
theorem i64_or192 (y : Int) (h0 : 0 ≤ y) (h : y < 32) : bits .or .i64 192 y = 192 + y := bits_join .i64 21 (by decide) w21 5 192 y (by decide) (by decide) (by decide) h0 h (by omega)
theorem i64_or224 (y : Int) (h0 : 0 ≤ y) (h : y < 16) : bits .or .i64 224 y = 224 + y := bits_join .i64 21 (by decide) w21 4 224 y (by decide) (by decide) (by decide) h0 h (by omega)
theorem i64_or240 (y : Int) (h0 : 0 ≤ y) (h : y < 8) : bits .or .i64 240 y = 240 + y := bits_join .i64 21 (by decide) w21 3 240 y (by decide) (by decide) (by decide) h0 h (by omega)
theorem i64_or64 (x y : Int) (hx : 0 ≤ x) (hm : x % 64 = 0) (hx1 : x < 2097152) (h0 : 0 ≤ y) (h : y < 64) : bits .or .i64 x y = x + y := bits_join .i64 21 (by decide) w21 6 x y hx hm hx1 h0 h (by omega)

theorem conv1 (w : World) (a : Int) : (convert 124 9 (.slice (some ⟨w.heap.size, 0, none⟩) 1 1)).run Tryz.prog (w.alloc (.cells #[.int .u8 a] 5)) = .ok (.string (strOfNums [a])) (w.alloc (.cells #[.int .u8 a] 5)) := by
  refine run_convert_bytes_arg _ 124 5 Tryz.underlying124 Tryz.underlying5 _ 0 1 1 [a] rfl (fun i hi => ?_) 9 Tryz.underlying9
  match i, hi with
  | 0, _ => simp [World.cell?_alloc_new]
theorem conv2 (w : World) (a b : Int) : (convert 124 9 (.slice (some ⟨w.heap.size, 0, none⟩) 2 2)).run Tryz.prog (w.alloc (.cells #[.int .u8 a, .int .u8 b] 5)) = .ok (.string (strOfNums [a, b])) (w.alloc (.cells #[.int .u8 a, .int .u8 b] 5)) := by
  refine run_convert_bytes_arg _ 124 5 Tryz.underlying124 Tryz.underlying5 _ 0 2 2 [a, b] rfl (fun i hi => ?_) 9 Tryz.underlying9
  match i, hi with
  | 0, _ => simp [World.cell?_alloc_new]
  | 1, _ => simp [World.cell?_alloc_new]
theorem conv3 (w : World) (a b c : Int) : (convert 124 9 (.slice (some ⟨w.heap.size, 0, none⟩) 3 3)).run Tryz.prog (w.alloc (.cells #[.int .u8 a, .int .u8 b, .int .u8 c] 5)) = .ok (.string (strOfNums [a, b, c])) (w.alloc (.cells #[.int .u8 a, .int .u8 b, .int .u8 c] 5)) := by
  refine run_convert_bytes_arg _ 124 5 Tryz.underlying124 Tryz.underlying5 _ 0 3 3 [a, b, c] rfl (fun i hi => ?_) 9 Tryz.underlying9
  match i, hi with
  | 0, _ => simp [World.cell?_alloc_new]
  | 1, _ => simp [World.cell?_alloc_new]
  | 2, _ => simp [World.cell?_alloc_new]
theorem conv4 (w : World) (a b c d : Int) : (convert 124 9 (.slice (some ⟨w.heap.size, 0, none⟩) 4 4)).run Tryz.prog (w.alloc (.cells #[.int .u8 a, .int .u8 b, .int .u8 c, .int .u8 d] 5)) = .ok (.string (strOfNums [a, b, c, d])) (w.alloc (.cells #[.int .u8 a, .int .u8 b, .int .u8 c, .int .u8 d] 5)) := by
  refine run_convert_bytes_arg _ 124 5 Tryz.underlying124 Tryz.underlying5 _ 0 4 4 [a, b, c, d] rfl (fun i hi => ?_) 9 Tryz.underlying9
  match i, hi with
  | 0, _ => simp [World.cell?_alloc_new]
  | 1, _ => simp [World.cell?_alloc_new]
  | 2, _ => simp [World.cell?_alloc_new]
  | 3, _ => simp [World.cell?_alloc_new]

theorem num_byte (z : Int) : UInt8.ofNat z.toNat = z.toNat.toUInt8 := rfl
theorem enc1 {c : Int} (a : 0 ≤ c) (b : c < 128) : strOfNums [c] = ⟨(enc c).toArray⟩ := by
  rw [enc_one a b]; rfl
theorem enc2 {c : Int} (a : 128 ≤ c) (b : c ≤ 2047) : strOfNums [bits .or .i64 192 (c / 64) % 256, bits .or .i64 128 (bits .and .i64 c 63) % 256] = ⟨(enc c).toArray⟩ := by
  rw [enc_two a b, i64_or192 _ (by omega) (by omega), i64_and63 _ (by omega) (by omega), i64_or128 _ (by omega) (by omega)]
  rw [Int.emod_eq_of_lt (show 0 ≤ 192 + c / 64 by omega) (by omega), Int.emod_eq_of_lt (show 0 ≤ 128 + c % 64 by omega) (by omega)]; rfl
theorem enc3 {c : Int} (a : (2048 ≤ c ∧ c < 55296) ∨ (57343 < c ∧ c ≤ 65535)) : strOfNums [bits .or .i64 224 (c / 4096) % 256, bits .or .i64 128 (bits .and .i64 (c / 64) 63) % 256, bits .or .i64 128 (bits .and .i64 c 63) % 256] = ⟨(enc c).toArray⟩ := by
  rw [enc_three a, i64_or224 _ (by omega) (by omega), i64_and63 _ (by omega) (by omega), i64_or128 _ (by omega) (by omega), i64_and63 _ (by omega) (by omega), i64_or128 _ (by omega) (by omega)]
  rw [Int.emod_eq_of_lt (show 0 ≤ 224 + c / 4096 by omega) (by omega), Int.emod_eq_of_lt (show 0 ≤ 128 + c / 64 % 64 by omega) (by omega), Int.emod_eq_of_lt (show 0 ≤ 128 + c % 64 by omega) (by omega)]; rfl
theorem enc4 {c : Int} (a : 65536 ≤ c) (b : c ≤ 1114111) : strOfNums [bits .or .i64 240 (c / 262144) % 256, bits .or .i64 128 (bits .and .i64 (c / 4096) 63) % 256, bits .or .i64 128 (bits .and .i64 (c / 64) 63) % 256, bits .or .i64 128 (bits .and .i64 c 63) % 256] = ⟨(enc c).toArray⟩ := by
  rw [enc_four a b, i64_or240 _ (by omega) (by omega), i64_and63 _ (by omega) (by omega), i64_or128 _ (by omega) (by omega), i64_and63 _ (by omega) (by omega), i64_or128 _ (by omega) (by omega), i64_and63 _ (by omega) (by omega), i64_or128 _ (by omega) (by omega)]
  rw [Int.emod_eq_of_lt (show 0 ≤ 240 + c / 262144 by omega) (by omega), Int.emod_eq_of_lt (show 0 ≤ 128 + c / 4096 % 64 by omega) (by omega), Int.emod_eq_of_lt (show 0 ≤ 128 + c / 64 % 64 by omega) (by omega), Int.emod_eq_of_lt (show 0 ≤ 128 + c % 64 by omega) (by omega)]; rfl

set_option maxRecDepth 100000 in
set_option maxHeartbeats 1000000 in
/-- spec.encoded. -/
theorem encoded_calls (c : Int) (hc : Rn c) (w : World) : Calls Tryz.prog 65 #[.int .i64 c] w fun e w' => e = .returned (.string ⟨(enc c).toArray⟩) ∧ KeepA w w' := by
  have c1 := conv1 w
  have c2 := conv2 w
  have c3 := conv3 w
  have c4 := conv4 w
  rcases hc.kinds with ⟨a, b⟩ | ⟨a, b⟩ | a | ⟨a, b⟩
  · go_enter Tryz.func65, Tryz.ntmps65
    go_wp2
    go_ret
    exact ⟨ret_str (enc1 a b), (Keep.refl _ _).alloc _⟩
  · go_enter Tryz.func65, Tryz.ntmps65
    go_wp2
    go_ret
    exact ⟨ret_str (enc2 a b), (Keep.refl _ _).alloc _⟩
  · have a1 : 2048 ≤ c := by omega
    have a2 : c < 65536 := by omega
    have A := Lib.hid a
    clear a
    go_enter Tryz.func65, Tryz.ntmps65
    go_wp2
    go_ret
    exact ⟨ret_str (enc3 A.out), (Keep.refl _ _).alloc _⟩
  · go_enter Tryz.func65, Tryz.ntmps65
    go_wp2
    go_ret
    exact ⟨ret_str (enc4 a b), (Keep.refl _ _).alloc _⟩

/-! ### runeAt: what it answers -/
theorem ret_rune {a b c d : Int} (h : (c, d) = (a, b)) : Ending.returned (.tuple #[.int .i64 a, .int .i64 b]) = .returned (.tuple #[.int .i64 c, .int .i64 d]) := by injection h with h1 h2; rw [h1, h2]

def bt (s : ByteArray) (i : Nat) : Int := ((s.get! i).toNat : Int)
theorem bt_at (s : ByteArray) (i : Nat) : ∀ h : i < s.size, (((s[i]'h).toNat : Nat) : Int) = bt s i := fun h => by
  unfold bt
  rw [← Lib.getD_get!']
  have := list_get_ba s i h
  simp [List.getD, this]
theorem bt_range (s : ByteArray) (i : Nat) : 0 ≤ bt s i ∧ bt s i < 256 := by
  unfold bt
  have := (s.get! i).toNat_lt
  omega
theorem top_nat : ∀ x : Nat, x < 256 → bits .and .u8 (x : Int) 192 = ((x / 64 * 64 : Nat) : Int) := by decide +kernel
theorem top (x : Int) (h0 : 0 ≤ x) (h1 : x < 256) : bits .and .u8 x 192 = x / 64 * 64 := by
  have := top_nat x.toNat (by omega)
  rw [Int.toNat_of_nonneg h0] at this
  rw [this]; omega

/-- What spec.runeAt answers. -/
def rAt (s : ByteArray) (i : Nat) : Int × Int :=
  if s.size ≤ i then (-1, 0)
  else if Utf8.decode s i = (65533, 1) then (-2, 1) else ((Utf8.decode s i).1, (Utf8.decode s i).2)
def acc (s : ByteArray) (i : Nat) (m : Int) : Nat → Int
  | 0 => bt s i % m
  | k + 1 => acc s i m k * 64 + bt s (i + (k + 1)) % 64

theorem rAt_of {s : ByteArray} {i : Nat} {c0 c1 c2 c3 : Nat} (hi : i < s.size) (e0 : (s.get! i).toNat = c0) (e1 : (s.get! (i + 1)).toNat = c1) (e2 : (s.get! (i + 2)).toNat = c2) (e3 : (s.get! (i + 3)).toNat = c3) {a : Nat × Nat} {r : Int × Int}
    (h : Lib.decodeN (s.size - i) c0 c1 c2 c3 = a) (hr : (if a = (65533, 1) then (-2, 1) else ((a.1 : Int), (a.2 : Int))) = r) : rAt s i = r := by
  subst e0 e1 e2 e3
  unfold rAt
  rw [if_neg (by omega), Lib.decode_at, h, hr]
theorem rAt_ext {s : ByteArray} {i : Nat} {a : Nat × Nat} {r : Int × Int} (hi : i < s.size) (h : Lib.decodeN (s.size - i) (s.get! i).toNat (s.get! (i + 1)).toNat (s.get! (i + 2)).toNat (s.get! (i + 3)).toNat = a)
    (hr : (if a = (65533, 1) then (-2, 1) else ((a.1 : Int), (a.2 : Int))) = r) : rAt s i = r := by
  unfold rAt
  rw [if_neg (by omega), Lib.decode_at, h, hr]
/-- The classes: how many bytes, which mask, the least code point. -/
def Cls (s : ByteArray) (i n : Nat) (m low : Int) : Prop := (n = 2 ∧ m = 32 ∧ low = 128 ∧ 194 ≤ bt s i ∧ bt s i < 224) ∨ (n = 3 ∧ m = 16 ∧ low = 2048 ∧ 224 ≤ bt s i ∧ bt s i < 240) ∨ (n = 4 ∧ m = 8 ∧ low = 65536 ∧ 240 ≤ bt s i ∧ bt s i < 245)
theorem rAt_low {s : ByteArray} {i : Nat} (hi : i < s.size) (h : bt s i < 128) : rAt s i = (bt s i, 1) := by
  unfold bt at h
  refine rAt_ext hi (a := ((s.get! i).toNat, 1)) ?_ ?_
  · unfold Lib.decodeN; rw [if_pos (by omega)]
  · rw [if_neg (by intro e; injection e with e1 e2; omega)]; rfl
theorem rAt_none {s : ByteArray} {i : Nat} (hi : i < s.size) (h : 128 ≤ bt s i ∧ bt s i < 194 ∨ 245 ≤ bt s i) : rAt s i = (-2, 1) := by
  have h1 := (s.get! (i + 1)).toNat_lt
  have h2 := (s.get! (i + 2)).toNat_lt
  have h3 := (s.get! (i + 3)).toNat_lt
  have h4 := (s.get! i).toNat_lt
  unfold bt at h
  refine rAt_ext hi (a := (65533, 1)) ?_ rfl
  unfold Lib.decodeN
  rw [if_neg (by omega)]
  repeat' split
  all_goals first | rfl | (exfalso; omega)
theorem rAt_bad {s : ByteArray} {i n : Nat} {m low : Int} (hi : i < s.size) (hc : Cls s i n m low) (k : Nat) (hk : k + 1 < n) (h : s.size ≤ i + (k + 1) ∨ bt s (i + (k + 1)) / 64 ≠ 2) : rAt s i = (-2, 1) := by
  have h1 := (s.get! (i + 1)).toNat_lt
  have h2 := (s.get! (i + 2)).toNat_lt
  have h3 := (s.get! (i + 3)).toNat_lt
  unfold bt at h
  unfold Cls bt at hc
  refine rAt_ext hi (a := (65533, 1)) ?_ rfl
  unfold Lib.decodeN
  have hk3 : k = 0 ∨ k = 1 ∨ k = 2 := by omega
  rcases hk3 with rfl | rfl | rfl
  all_goals
    simp only [Nat.zero_add, Nat.reduceAdd] at h
    repeat' split
    all_goals first | rfl | (exfalso; omega)
theorem acc_range {s : ByteArray} {i n : Nat} {m low : Int} (hc : Cls s i n m low) : ∀ k, k < n → 0 ≤ acc s i m k ∧ acc s i m k < 2097152 / 64 ^ (n - 1 - k) := by
  have b0 := bt_range s i
  have b1 := bt_range s (i + 1)
  have b2 := bt_range s (i + 2)
  have b3 := bt_range s (i + 3)
  intro k hk
  rcases hc with ⟨rfl, rfl, rfl, a, b⟩ | ⟨rfl, rfl, rfl, a, b⟩ | ⟨rfl, rfl, rfl, a, b⟩
  all_goals
    have hk3 : k = 0 ∨ k = 1 ∨ k = 2 ∨ k = 3 := by omega
    rcases hk3 with rfl | rfl | rfl | rfl
    all_goals first | omega | (simp only [acc, Nat.reduceAdd, Nat.reduceSub, Int.reducePow, Int.reduceDiv]; omega)
theorem rAt_good {s : ByteArray} {i n : Nat} {m low : Int} (hi : i < s.size) (hc : Cls s i n m low) (h : ∀ k, k + 1 < n → i + (k + 1) < s.size ∧ bt s (i + (k + 1)) / 64 = 2) :
    rAt s i = if acc s i m (n - 1) < low ∨ 1114111 < acc s i m (n - 1) ∨ (55296 ≤ acc s i m (n - 1) ∧ acc s i m (n - 1) < 57344) then (-2, 1) else (acc s i m (n - 1), (n : Int)) := by
  have h1 := (s.get! (i + 1)).toNat_lt
  have h2 := (s.get! (i + 2)).toNat_lt
  have h3 := (s.get! (i + 3)).toNat_lt
  unfold Cls at hc
  simp only [bt] at hc h
  obtain ⟨c0, e0⟩ : ∃ c, (s.get! i).toNat = c := ⟨_, rfl⟩
  obtain ⟨c1, e1⟩ : ∃ c, (s.get! (i + 1)).toNat = c := ⟨_, rfl⟩
  obtain ⟨c2, e2⟩ : ∃ c, (s.get! (i + 2)).toNat = c := ⟨_, rfl⟩
  obtain ⟨c3, e3⟩ : ∃ c, (s.get! (i + 3)).toNat = c := ⟨_, rfl⟩
  rw [e0] at hc
  rw [e1] at h1
  rw [e2] at h2
  rw [e3] at h3
  rcases hc with ⟨rfl, rfl, rfl, a, b⟩ | ⟨rfl, rfl, rfl, a, b⟩ | ⟨rfl, rfl, rfl, a, b⟩
  · have g0 := h 0 (by omega)
    clear h
    simp only [acc, bt, Nat.zero_add, Nat.reduceSub] at *
    rw [e0, e1]
    rw [e1] at g0
    refine rAt_of hi e0 e1 e2 e3 (a := (c0 % 32 * 64 + c1 % 64, 2)) ?_ ?_
    · unfold Lib.decodeN
      rw [if_neg (by omega), if_pos (by omega), if_pos (by omega)]
    · rw [if_neg (by intro e; injection e with _ e; omega), if_neg (by omega)]
      apply Prod.ext <;> simp only <;> omega
  · have g0 := h 0 (by omega)
    have g1 := h 1 (by omega)
    clear h
    simp only [acc, bt, Nat.zero_add, Nat.reduceAdd, Nat.reduceSub] at *
    rw [e0, e1, e2]
    rw [e1] at g0
    rw [e2] at g1
    by_cases q : c0 % 16 * 4096 + c1 % 64 * 64 + c2 % 64 < 2048 ∨ (55296 ≤ c0 % 16 * 4096 + c1 % 64 * 64 + c2 % 64 ∧ c0 % 16 * 4096 + c1 % 64 * 64 + c2 % 64 < 57344)
    · refine rAt_of hi e0 e1 e2 e3 (a := (65533, 1)) ?_ ?_
      · unfold Lib.decodeN
        rw [if_neg (by omega), if_neg (by omega), if_pos (by omega), if_neg (by omega)]
      · rw [if_pos rfl, if_pos (by omega)]
    · refine rAt_of hi e0 e1 e2 e3 (a := (c0 % 16 * 4096 + c1 % 64 * 64 + c2 % 64, 3)) ?_ ?_
      · unfold Lib.decodeN
        rw [if_neg (by omega), if_neg (by omega), if_pos (by omega), if_pos (by omega)]
      · rw [if_neg (by intro e; injection e with _ e; omega), if_neg (by omega)]
        apply Prod.ext <;> simp only <;> omega
  · have g0 := h 0 (by omega)
    have g1 := h 1 (by omega)
    have g2 := h 2 (by omega)
    clear h
    simp only [acc, bt, Nat.zero_add, Nat.reduceAdd, Nat.reduceSub] at *
    rw [e0, e1, e2, e3]
    rw [e1] at g0
    rw [e2] at g1
    rw [e3] at g2
    by_cases q : c0 % 8 * 262144 + c1 % 64 * 4096 + c2 % 64 * 64 + c3 % 64 < 65536 ∨ 1114111 < c0 % 8 * 262144 + c1 % 64 * 4096 + c2 % 64 * 64 + c3 % 64
    · refine rAt_of hi e0 e1 e2 e3 (a := (65533, 1)) ?_ ?_
      · unfold Lib.decodeN
        rw [if_neg (by omega), if_neg (by omega), if_neg (by omega), if_pos (by omega), if_neg (by omega)]
      · rw [if_pos rfl, if_pos (by omega)]
    · refine rAt_of hi e0 e1 e2 e3 (a := (c0 % 8 * 262144 + c1 % 64 * 4096 + c2 % 64 * 64 + c3 % 64, 4)) ?_ ?_
      · unfold Lib.decodeN
        rw [if_neg (by omega), if_neg (by omega), if_neg (by omega), if_pos (by omega), if_pos (by omega)]
      · rw [if_neg (by intro e; injection e with _ e; omega), if_neg (by omega)]
        apply Prod.ext <;> simp only <;> omega

end Go.Proofs.YtedckphklebndaaGreatDoor
/- The reference's runeAt, walked: at every place of every text of at most 2^47 bytes it answers rAt. -/
namespace Go.Proofs.YtedckphklebndaaGreatDoor
open Go Go.RowKit

/-! ### runeAt: the walk -/
def RL (s : ByteArray) (i n : Nat) (m : Int) (b k : Value) : Prop :=
  ∃ j : Nat, j < n ∧ k = .int .i64 (j + 1 : Nat) ∧ b = .int .i64 (acc s i m j) ∧ (∀ q, q < j → i + (q + 1) < s.size ∧ bt s (i + (q + 1)) / 64 = 2)
theorem RL.next {s : ByteArray} {i n : Nat} {m : Int} {j : Nat} {b k : Value} (hj : j + 1 < n) (hq : ∀ q, q < j → i + (q + 1) < s.size ∧ bt s (i + (q + 1)) / 64 = 2) (hz : i + (j + 1) < s.size) (hy : bt s (i + (j + 1)) / 64 = 2)
    (hk : k = .int .i64 ((j : Int) + 1 + 1)) (hb : b = .int .i64 (acc s i m j * 64 + bt s (i + (j + 1)) % 64)) : RL s i n m b k :=
  ⟨j + 1, hj, by rw [hk]; simp, by rw [hb]; rfl, fun q hq' => by
    rcases Nat.lt_or_ge q j with h | h
    · exact hq q h
    · obtain rfl : q = j := by omega
      exact ⟨hz, hy⟩⟩
theorem acc_join {a x : Int} (h0 : 0 ≤ a) (h1 : a < 32768) (h2 : 0 ≤ x) (h3 : x < 64) : bits .or .i64 (a * 64) x = a * 64 + x := i64_or64 _ _ (by omega) (by omega) (by omega) h2 h3
theorem acc_small {s : ByteArray} {i n : Nat} {m low : Int} (hc : Cls s i n m low) : ∀ k, k + 1 < n → 0 ≤ acc s i m k ∧ acc s i m k < 32768 := by
  intro k hk
  have h := acc_range hc k (by omega)
  rcases hc with ⟨rfl, rfl, rfl, a, b⟩ | ⟨rfl, rfl, rfl, a, b⟩ | ⟨rfl, rfl, rfl, a, b⟩
  all_goals
    have hk3 : k = 0 ∨ k = 1 ∨ k = 2 := by omega
    rcases hk3 with rfl | rfl | rfl
    all_goals (simp only [Nat.reduceSub, Nat.sub_zero, Int.reducePow, Int.reduceDiv] at h; omega)
theorem acc_last {s : ByteArray} {i n : Nat} {m low : Int} (hc : Cls s i n m low) : 0 ≤ acc s i m (n - 1) ∧ acc s i m (n - 1) < 2097152 := by
  have h := acc_range hc (n - 1) (by rcases hc with ⟨rfl, _⟩ | ⟨rfl, _⟩ | ⟨rfl, _⟩ <;> omega)
  simpa using h
set_option maxRecDepth 100000 in
set_option maxHeartbeats 4000000 in
theorem runeAt_more (s : ByteArray) (i n : Nat) (m low : Int) (w : World) (hs : s.size ≤ 140737488355328) (hi : i < s.size) (hc : Cls s i n m low) :
    Calls Tryz.prog 27 #[.string s, .int .i64 i] w fun e w' => e = .returned (.tuple #[.int .i64 (rAt s i).1, .int .i64 (rAt s i).2]) ∧ w = w' := by
  have HR := Lib.hid (acc_small hc)
  have HB := Lib.hid (rAt_bad hi hc)
  have HG := Lib.hid (rAt_good hi hc)
  have hx := bt_at s i
  have hb := bt_range s i
  have m1 := i64_and31 (bt s i) (by omega) (by omega)
  have m2 := i64_and15 (bt s i) (by omega) (by omega)
  have m3 := i64_and7 (bt s i) (by omega) (by omega)
  have hd0 : decide (s.size ≤ i) = false := by simp; omega
  have hd1 : decide (bt s i < 128) = false := by unfold Cls at hc; simp; omega
  rcases hc with ⟨rfl, rfl, rfl, h1, h2⟩ | ⟨rfl, rfl, rfl, h1, h2⟩ | ⟨rfl, rfl, rfl, h1, h2⟩
  · go_enter Tryz.func27, Tryz.ntmps27
    go_wp2
    go_loop [6, 9] (fun b k => RL s i 2 32 b k) (fun _ k => 2 - (intOf k).toNat)
    case atStart => exact ⟨0, by omega, rfl, rfl, fun q hq => by omega⟩
    case round =>
      obtain ⟨j, hj, rfl, rfl, hq⟩ := hrel
      have HQ := Lib.hid hq
      clear hq
      by_cases hl : j + 1 < 2
      · obtain ⟨ha0, ha'⟩ := HR.out j hl
        by_cases hz : i + (j + 1) < s.size
        · have hx1 := bt_at s (i + (j + 1))
          have hb1 := bt_range s (i + (j + 1))
          have ht := top (bt s (i + (j + 1))) (by omega) (by omega)
          have hm := u8_and63 (x := bt s (i + (j + 1))) (by omega) (by omega)
          have hd : decide ((s.size : Int) ≤ (i : Int) + ((j : Int) + 1)) = false := by simp; omega
          by_cases hy : bt s (i + (j + 1)) / 64 = 2
          · have hd2 : (bt s (i + (j + 1)) / 64 * 64 != 128) = false := by simp; omega
            have hjn := acc_join (x := bt s (i + (j + 1)) % 64) ha0 ha' (by omega) (by omega)
            have HY := Lib.hid hy
            clear hy
            go_wp2
            go_round
            case rel => exact RL.next hl HQ.out hz HY.out rfl rfl
            case measure => simp [intOf]; omega
          · have hd2 : (bt s (i + (j + 1)) / 64 * 64 != 128) = true := by simp; omega
            go_wp2
            go_ret2
            exact ⟨ret_rune (HB.out j hl (.inr hy)), rfl⟩
        · have hd : decide ((s.size : Int) ≤ (i : Int) + ((j : Int) + 1)) = true := by simp; omega
          go_wp2
          go_ret2
          exact ⟨ret_rune (HB.out j hl (.inl (by omega))), rfl⟩
      · obtain rfl : j = 1 := by omega
        have hg := HG.out (fun q hq => HQ.out q (by omega))
        have HG2 := Lib.hid hg
        clear hg
        go_wp2
        all_goals
          go_ret2
          exact ⟨ret_rune (by rw [HG2.out]; simp only [Nat.reduceSub]; first | (rw [if_pos (by omega)]; done) | (rw [if_neg (by omega)]; rfl)), rfl⟩
  · have hd4 : decide (bt s i < 224) = false := by simp; omega
    go_enter Tryz.func27, Tryz.ntmps27
    go_wp2
    go_loop [6, 9] (fun b k => RL s i 3 16 b k) (fun _ k => 3 - (intOf k).toNat)
    case atStart => exact ⟨0, by omega, rfl, rfl, fun q hq => by omega⟩
    case round =>
      obtain ⟨j, hj, rfl, rfl, hq⟩ := hrel
      have HQ := Lib.hid hq
      clear hq
      by_cases hl : j + 1 < 3
      · obtain ⟨ha0, ha'⟩ := HR.out j hl
        by_cases hz : i + (j + 1) < s.size
        · have hx1 := bt_at s (i + (j + 1))
          have hb1 := bt_range s (i + (j + 1))
          have ht := top (bt s (i + (j + 1))) (by omega) (by omega)
          have hm := u8_and63 (x := bt s (i + (j + 1))) (by omega) (by omega)
          have hd : decide ((s.size : Int) ≤ (i : Int) + ((j : Int) + 1)) = false := by simp; omega
          by_cases hy : bt s (i + (j + 1)) / 64 = 2
          · have hd2 : (bt s (i + (j + 1)) / 64 * 64 != 128) = false := by simp; omega
            have hjn := acc_join (x := bt s (i + (j + 1)) % 64) ha0 ha' (by omega) (by omega)
            have HY := Lib.hid hy
            clear hy
            go_wp2
            go_round
            case rel => exact RL.next hl HQ.out hz HY.out rfl rfl
            case measure => simp [intOf]; omega
          · have hd2 : (bt s (i + (j + 1)) / 64 * 64 != 128) = true := by simp; omega
            go_wp2
            go_ret2
            exact ⟨ret_rune (HB.out j hl (.inr hy)), rfl⟩
        · have hd : decide ((s.size : Int) ≤ (i : Int) + ((j : Int) + 1)) = true := by simp; omega
          go_wp2
          go_ret2
          exact ⟨ret_rune (HB.out j hl (.inl (by omega))), rfl⟩
      · obtain rfl : j = 2 := by omega
        have hg := HG.out (fun q hq => HQ.out q (by omega))
        have HG2 := Lib.hid hg
        clear hg
        go_wp2
        all_goals
          go_ret2
          exact ⟨ret_rune (by rw [HG2.out]; simp only [Nat.reduceSub]; first | (rw [if_pos (by omega)]; done) | (rw [if_neg (by omega)]; rfl)), rfl⟩
  · have hd4 : decide (bt s i < 224) = false := by simp; omega
    have hd5 : decide (bt s i < 240) = false := by simp; omega
    go_enter Tryz.func27, Tryz.ntmps27
    go_wp2
    go_loop [6, 9] (fun b k => RL s i 4 8 b k) (fun _ k => 4 - (intOf k).toNat)
    case atStart => exact ⟨0, by omega, rfl, rfl, fun q hq => by omega⟩
    case round =>
      obtain ⟨j, hj, rfl, rfl, hq⟩ := hrel
      have HQ := Lib.hid hq
      clear hq
      by_cases hl : j + 1 < 4
      · obtain ⟨ha0, ha'⟩ := HR.out j hl
        by_cases hz : i + (j + 1) < s.size
        · have hx1 := bt_at s (i + (j + 1))
          have hb1 := bt_range s (i + (j + 1))
          have ht := top (bt s (i + (j + 1))) (by omega) (by omega)
          have hm := u8_and63 (x := bt s (i + (j + 1))) (by omega) (by omega)
          have hd : decide ((s.size : Int) ≤ (i : Int) + ((j : Int) + 1)) = false := by simp; omega
          by_cases hy : bt s (i + (j + 1)) / 64 = 2
          · have hd2 : (bt s (i + (j + 1)) / 64 * 64 != 128) = false := by simp; omega
            have hjn := acc_join (x := bt s (i + (j + 1)) % 64) ha0 ha' (by omega) (by omega)
            have HY := Lib.hid hy
            clear hy
            go_wp2
            go_round
            case rel => exact RL.next hl HQ.out hz HY.out rfl rfl
            case measure => simp [intOf]; omega
          · have hd2 : (bt s (i + (j + 1)) / 64 * 64 != 128) = true := by simp; omega
            go_wp2
            go_ret2
            exact ⟨ret_rune (HB.out j hl (.inr hy)), rfl⟩
        · have hd : decide ((s.size : Int) ≤ (i : Int) + ((j : Int) + 1)) = true := by simp; omega
          go_wp2
          go_ret2
          exact ⟨ret_rune (HB.out j hl (.inl (by omega))), rfl⟩
      · obtain rfl : j = 3 := by omega
        have hg := HG.out (fun q hq => HQ.out q (by omega))
        have HG2 := Lib.hid hg
        clear hg
        go_wp2
        all_goals
          go_ret2
          exact ⟨ret_rune (by rw [HG2.out]; simp only [Nat.reduceSub]; first | (rw [if_pos (by omega)]; done) | (rw [if_neg (by omega)]; rfl)), rfl⟩

set_option maxRecDepth 100000 in
set_option maxHeartbeats 1000000 in
/-- spec.runeAt at every place of every text. -/
theorem runeAt_calls (s : ByteArray) (i : Nat) (w : World) (hs : s.size ≤ 140737488355328) :
    Calls Tryz.prog 27 #[.string s, .int .i64 i] w fun e w' => e = .returned (.tuple #[.int .i64 (rAt s i).1, .int .i64 (rAt s i).2]) ∧ w = w' := by
  have hb := bt_range s i
  by_cases hi : i < s.size
  · by_cases h1 : bt s i < 128
    · have HL := Lib.hid (rAt_low hi h1)
      have hx := bt_at s i
      have hd0 : decide (s.size ≤ i) = false := by simp; omega
      go_enter Tryz.func27, Tryz.ntmps27
      go_wp2
      go_ret2
      exact ⟨ret_rune HL.out, rfl⟩
    · by_cases h2 : 128 ≤ bt s i ∧ bt s i < 194 ∨ 245 ≤ bt s i
      · have HL := Lib.hid (rAt_none hi h2)
        have hx := bt_at s i
        have hd0 : decide (s.size ≤ i) = false := by simp; omega
        rcases h2 with ⟨h2, h3⟩ | h2
        all_goals
          go_enter Tryz.func27, Tryz.ntmps27
          go_wp2
          go_ret2
          exact ⟨ret_rune HL.out, rfl⟩
      · by_cases h3 : bt s i < 224
        · exact runeAt_more s i 2 32 128 w hs hi (.inl ⟨rfl, rfl, rfl, by omega, h3⟩)
        · by_cases h4 : bt s i < 240
          · exact runeAt_more s i 3 16 2048 w hs hi (.inr (.inl ⟨rfl, rfl, rfl, by omega, h4⟩))
          · exact runeAt_more s i 4 8 65536 w hs hi (.inr (.inr ⟨rfl, rfl, rfl, by omega, by omega⟩))
  · have HL : Hid (rAt s i = (-1, 0)) := by
      have : rAt s i = (-1, 0) := by unfold rAt; rw [if_pos (by omega)]
      exact Lib.hid this
    have hd0 : decide (s.size ≤ i) = true := by simp; omega
    go_enter Tryz.func27, Tryz.ntmps27
    go_wp2
    go_ret2
    exact ⟨ret_rune HL.out, rfl⟩

end Go.Proofs.YtedckphklebndaaGreatDoor
/- The reference's lexer over lists of code points: what each of its functions takes and answers. No condition; no program in sight. -/
namespace Go.Proofs.YtedckphklebndaaGreatDoor
open Go

def nlTake : List Int → List Int
  | [] => []
  | c :: t => if c = 13 ∧ hd t = 10 then t.tail else t
def hexs : Nat → Int → List Int → Int × List Int
  | 0, v, l => (v, l)
  | _ + 1, v, [] => (v, [])
  | n + 1, v, c :: t => if 0 ≤ hexv c then hexs n (v * 16 + hexv c) t else (v, c :: t)
def escVal (v : Int) : Int := if v = 0 ∨ 1114111 < v ∨ (55296 ≤ v ∧ v < 57344) then 65533 else v
def escRest (r : List Int) : List Int := if isNL (hd r) then nlTake r else if isSp (hd r) then r.tail else r
/-- What stands behind a backslash: the code point that it means, what is left, whether it is left open. -/
def escF : List Int → Int × List Int × Bool
  | [] => (65533, [], true)
  | c :: t => if hexv c < 0 then (c, t, false) else (escVal (hexs 6 0 (c :: t)).1, escRest (hexs 6 0 (c :: t)).2, isNL (hd (hexs 6 0 (c :: t)).2))

theorem nlTake_le (l : List Int) : (nlTake l).length ≤ l.length := by
  cases l with
  | nil => simp [nlTake]
  | cons c t => simp only [nlTake]; split <;> simp <;> omega
theorem hexs_le (n : Nat) (v : Int) (l : List Int) : (hexs n v l).2.length ≤ l.length := by
  induction n generalizing v l with
  | zero => simp [hexs]
  | succ n ih =>
    cases l with
    | nil => simp [hexs]
    | cons c t =>
      unfold hexs
      split
      · have := ih (v * 16 + hexv c) t; simp only [List.length_cons]; omega
      · simp
theorem escRest_le (l : List Int) : (escRest l).length ≤ l.length := by
  unfold escRest
  split
  · exact nlTake_le l
  · split <;> simp
theorem escF_le (l : List Int) : (escF l).2.1.length ≤ l.length := by
  cases l with
  | nil => simp [escF]
  | cons c t =>
    simp only [escF]
    split
    · simp
    · have := escRest_le (hexs 6 0 (c :: t)).2
      have := hexs_le 6 0 (c :: t)
      simp only [List.length_cons] at *
      omega

/-- A name: its bytes, what is left, whether it is left open. -/
def nameF : List Int → List UInt8 × List Int × Bool
  | [] => ([], [], false)
  | c :: t =>
    if cont c then (enc c ++ (nameF t).1, (nameF t).2)
    else if escs c (hd t) then (enc (escF t).1 ++ (nameF (escF t).2.1).1, (nameF (escF t).2.1).2.1, (escF t).2.2 || (nameF (escF t).2.1).2.2)
    else ([], c :: t, false)
  termination_by l => l.length
  decreasing_by all_goals (have := escF_le t; simp only [List.length_cons]; omega)
def spaceF (l : List Int) : List Int := l.dropWhile isSp
def digitF (l : List Int) : List Int := l.dropWhile isDg

/-- The end of a comment, behind its first two signs. -/
def closeF : List Int → Option (List Int)
  | [] => none
  | c :: t => if c = 42 ∧ hd t = 47 then some t.tail else closeF t
theorem closeF_le {l r : List Int} (h : closeF l = some r) : r.length < l.length := by
  induction l with
  | nil => simp [closeF] at h
  | cons c t ih =>
    unfold closeF at h
    split at h
    · injection h with h; subst h; simp only [List.length_cons, List.length_tail]; omega
    · have := ih h; simp only [List.length_cons]; omega
/-- What is left behind comments, and whether one of them is left open. -/
def cmtsF (l : List Int) : List Int × Bool :=
  if hd l = 47 ∧ pk l 1 = 42 then
    match _h : closeF (l.drop 2) with
    | some r => cmtsF r
    | none => ([], true)
  else (l, false)
  termination_by l.length
  decreasing_by
    have := closeF_le _h
    simp only [List.length_drop] at this
    omega

/-- A token: its kind, where the unit of a dimension begins in it, whether a hash is an ID, its text. -/
structure Tok where
  kind : Int
  unit : Int := 0
  id : Bool := false
  text : List UInt8 := []

def signK (c : Int) : Int :=
  if c = 123 then 31 else if c = 125 then 6 else if c = 91 then 32 else if c = 93 then 7 else if c = 40 then 33 else if c = 41 then 8 else if c = 58 then 9
  else if c = 59 then 35 else if c = 44 then 10 else if c = 38 then 12 else if c = 42 then 13 else if c = 124 then 14 else if c = 94 then 15 else if c = 36 then 16
  else if c = 46 then 17 else if c = 61 then 18 else if c = 33 then 19 else if c = 62 then 20 else if c = 60 then 21 else if c = 45 then 22 else if c = 43 then 23
  else if c = 47 then 24 else if c = 126 then 25 else 11

/-- Behind the digits and the point of a number: whether an exponent stands there. -/
def expo (l : List Int) : Bool := (hd l == 101 || hd l == 69) && (isDg (pk l 1) || (pk l 1 == 43 || pk l 1 == 45) && isDg (pk l 2))
def num1 (l : List Int) : List Int := if hd l = 43 ∨ hd l = 45 then l.tail else l
def num2 (l : List Int) : List Int := digitF (num1 l)
def num3 (l : List Int) : List Int := if hd (num2 l) = 46 ∧ isDg (pk (num2 l) 1) = true then digitF (num2 l).tail else num2 l
def num4 (l : List Int) : List Int := if expo (num3 l) then digitF ((num3 l).drop 2) else num3 l
def numO (l : List Int) : Bool := hd (num2 l) == 46 && !isDg (pk (num2 l) 1)
def numF (l : List Int) : Tok × List Int × Bool :=
  if idnt (pk (num4 l) 0) (pk (num4 l) 1) (pk (num4 l) 2) then
    ({ kind := 26, unit := ((encs l).length : Int) - (encs (num4 l)).length }, (nameF (num4 l)).2.1, numO l || (nameF (num4 l)).2.2)
  else if hd (num4 l) = 37 then ({ kind := 34 }, (num4 l).tail, numO l)
  else ({ kind := 30 }, num4 l, numO l)

def isUrl (t : List UInt8) : Bool :=
  match t with
  | [a, b, c] => (a == 117 || a == 85) && (b == 114 || b == 82) && (c == 108 || c == 76)
  | _ => false
/-- What is left of a bad address; whether it is left open. -/
def badF : List Int → List Int × Bool
  | [] => ([], true)
  | c :: t =>
    if c = 41 then (t, false)
    else if escs c (hd t) then ((badF (escF t).2.1).1, true)
    else badF t
  termination_by l => l.length
  decreasing_by all_goals (have := escF_le t; simp only [List.length_cons]; omega)
/-- An address behind its whitespace, with what has been read of it. -/
def urlF (out : List UInt8) : List Int → Tok × List Int × Bool
  | [] => ({ kind := 37, text := out }, [], true)
  | c :: t =>
    if c = 41 then ({ kind := 37, text := out }, t, false)
    else if isSp c then
      if spaceF t = [] then ({ kind := 37, text := out }, [], true)
      else if hd (spaceF t) = 41 then ({ kind := 37, text := out }, (spaceF t).tail, false)
      else ({ kind := 3 }, (badF (spaceF t)).1, (badF (spaceF t)).2)
    else if c = 34 ∨ c = 39 ∨ c = 40 ∨ unpr c = true ∨ (c = 92 ∧ isNL (hd t) = true) then ({ kind := 3 }, (badF (c :: t)).1, (badF (c :: t)).2)
    else if c = 92 then ((urlF (out ++ enc (escF t).1) (escF t).2.1).1, (urlF (out ++ enc (escF t).1) (escF t).2.1).2.1, (escF t).2.2 || (urlF (out ++ enc (escF t).1) (escF t).2.1).2.2)
    else urlF (out ++ enc c) t
  termination_by l => l.length
  decreasing_by all_goals (have := escF_le t; simp only [List.length_cons]; omega)
def spB (b : UInt8) : Bool := b == 32 || b == 9 || b == 10 || b == 13 || b == 12
def trimB (t : List UInt8) : Bool := t == [] || !spB (t.headD 0) && !spB (t.getLastD 0)
def namedF (l : List Int) : Tok × List Int × Bool :=
  if hd (nameF l).2.1 = 40 then
    if isUrl (nameF l).1 = true ∧ hd (spaceF (nameF l).2.1.tail) ≠ 34 ∧ hd (spaceF (nameF l).2.1.tail) ≠ 39 then
      ((urlF [] (spaceF (nameF l).2.1.tail)).1, (urlF [] (spaceF (nameF l).2.1.tail)).2.1,
        (nameF l).2.2 || (urlF [] (spaceF (nameF l).2.1.tail)).2.2 || !((encs l).length == (encs (nameF l).2.1).length + 3) || !trimB (urlF [] (spaceF (nameF l).2.1.tail)).1.text)
    else ({ kind := 27, text := (nameF l).1 }, (nameF l).2.1.tail, (nameF l).2.2)
  else ({ kind := 29, text := (nameF l).1 }, (nameF l).2.1, (nameF l).2.2)

theorem nlTake_cons_le (c : Int) (t : List Int) : (nlTake (c :: t)).length ≤ t.length := by simp only [nlTake]; split <;> simp
/-- A text in quotes behind its first quote, with what has been read of it. -/
def quotF (q : Int) (out : List UInt8) : List Int → Tok × List Int × Bool
  | [] => ({ kind := 36, text := out }, [], true)
  | c :: t =>
    if c = q then ({ kind := 36, text := out }, t, false)
    else if isNL c then ({ kind := 2 }, c :: t, false)
    else if c = 92 then
      if isNL (hd t) then quotF q out (nlTake t)
      else if t = [] then ({ kind := 36, text := out }, [], true)
      else ((quotF q (out ++ enc (escF t).1) (escF t).2.1).1, (quotF q (out ++ enc (escF t).1) (escF t).2.1).2.1, (escF t).2.2 || (quotF q (out ++ enc (escF t).1) (escF t).2.1).2.2)
    else quotF q (out ++ enc c) t
  termination_by l => l.length
  decreasing_by all_goals (have := escF_le t; have := nlTake_le t; first | (simp; done) | (simp; omega))

/-- The token behind comments. -/
def nextF (l : List Int) : Tok × List Int × Bool :=
  if l = [] then ({ kind := 0 }, [], false)
  else if isSp (hd l) then ({ kind := 38 }, spaceF l, false)
  else if hd l = 34 ∨ hd l = 39 then quotF (hd l) [] l.tail
  else if hd l = 35 ∧ (cont (pk l 1) = true ∨ escs (pk l 1) (pk l 2) = true) then
    ({ kind := 28, id := idnt (pk l 1) (pk l 2) (pk l 3), text := (nameF l.tail).1 }, (nameF l.tail).2.1, (nameF l.tail).2.2)
  else if cnts (pk l 0) (pk l 1) (pk l 2) then numF l
  else if hd l = 45 ∧ pk l 1 = 45 ∧ pk l 2 = 62 then ({ kind := 4 }, l.drop 3, false)
  else if idnt (pk l 0) (pk l 1) (pk l 2) then namedF l
  else if hd l = 60 ∧ pk l 1 = 33 ∧ pk l 2 = 45 ∧ pk l 3 = 45 then ({ kind := 5 }, l.drop 4, false)
  else if hd l = 64 ∧ idnt (pk l 1) (pk l 2) (pk l 3) = true then ({ kind := 1, text := (nameF l.tail).1 }, (nameF l.tail).2.1, (nameF l.tail).2.2)
  else ({ kind := signK (hd l) }, l.tail, false)

end Go.Proofs.YtedckphklebndaaGreatDoor
