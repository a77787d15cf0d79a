/- The reference's lexer, its small steps walked: peek, take, newline, spaces, digits. Conditions: the lexer's block holds a text of at most 2^40 bytes that is plain from the place on. -/
import Derived.Test.YtedckphklebndaaGreatDoorQGA
import Derived.Deep.QuietTactic
import Derived.BigQuiet
import Derived.Deep.LoopGhost
namespace Go.Proofs.YtedckphklebndaaGreatDoor
open Go Go.RowKit

/-- How wide the next code point is. -/
def wdl (l : List Int) : Nat := match l with | [] => 0 | c :: _ => wd c
theorem ps_step {s : ByteArray} {l : List Int} (h : Sfx s l) : ps s l.tail = ps s l + wdl l := by
  cases l with
  | nil => simp [wdl]
  | cons c l => simpa [wdl] using ps_cons h
theorem rAt_sfx {s : ByteArray} {l : List Int} (h : Sfx s l) : rAt s (ps s l) = (hd l, (wdl l : Int)) := by
  cases l with
  | nil => simp [rAt, wdl]
  | cons c l =>
    have hw := decode_at_sfx h
    have hlt := ps_lt h
    obtain ⟨h1, h2, h3⟩ := h.all.head
    unfold rAt
    rw [if_neg (by omega), hw, if_neg]
    · simp only [hd_cons, wdl]
      rw [Int.toNat_of_nonneg (by omega)]
    · intro e
      injection e with e1 e2
      have : c = 65533 := by omega
      subst this
      rw [show wd 65533 = 3 from by decide] at e2
      cases e2

/-- The cells of a block of one row. -/
theorem blk_cell {w : World} {g : Nat} {cs : Array Value} {t : TypeId} (h : w.heap[g]? = some (.cells cs t (0, 0))) (j : Nat) : w.cell? ⟨g, j, none⟩ = cs[j]? := by simp [World.cell?, h]
theorem blk_frozen {w : World} {g : Nat} {cs : Array Value} {t : TypeId} (h : w.heap[g]? = some (.cells cs t (0, 0))) (j : Nat) : w.frozen? ⟨g, j, none⟩ = false := by simp [World.frozen?, h]
theorem blk_set {w : World} {g : Nat} {cs : Array Value} {t : TypeId} (h : w.heap[g]? = some (.cells cs t (0, 0))) (j : Nat) (v : Value) : (w.setCell ⟨g, j, none⟩ v).heap[g]? = some (.cells (cs.setIfInBounds j v) t (0, 0)) := by
  simp [World.setCell, Array.getElem?_modify, h]

/-- The reference's lexer in memory. -/
def SL (w : World) (g : Nat) (s : ByteArray) (l : List Int) (v : Value) (o : Bool) : Prop :=
  w.heap[g]? = some (.cells #[.string s, .int .i64 (ps s l), v, .bool o] 67 (0, 0))
theorem SL.c0 {w : World} {g : Nat} {s : ByteArray} {l : List Int} {v : Value} {o : Bool} (h : SL w g s l v o) : w.cell? ⟨g, 0, none⟩ = some (.string s) := (blk_cell h 0).trans rfl
theorem SL.c1 {w : World} {g : Nat} {s : ByteArray} {l : List Int} {v : Value} {o : Bool} (h : SL w g s l v o) : w.cell? ⟨g, 1, none⟩ = some (.int .i64 (ps s l)) := (blk_cell h 1).trans rfl
theorem SL.c2 {w : World} {g : Nat} {s : ByteArray} {l : List Int} {v : Value} {o : Bool} (h : SL w g s l v o) : w.cell? ⟨g, 2, none⟩ = some v := (blk_cell h 2).trans rfl
theorem SL.c3 {w : World} {g : Nat} {s : ByteArray} {l : List Int} {v : Value} {o : Bool} (h : SL w g s l v o) : w.cell? ⟨g, 3, none⟩ = some (.bool o) := (blk_cell h 3).trans rfl
theorem SL.set1 {w : World} {g : Nat} {s : ByteArray} {l : List Int} {v : Value} {o : Bool} (h : SL w g s l v o) (l' : List Int) {x : Int} (hx : x = (ps s l' : Nat)) : SL (w.setCell ⟨g, 1, none⟩ (.int .i64 x)) g s l' v o := by
  subst hx; exact (blk_set h 1 _).trans rfl
theorem SL.set3 {w : World} {g : Nat} {s : ByteArray} {l : List Int} {v : Value} {o : Bool} (h : SL w g s l v o) (o' : Bool) : SL (w.setCell ⟨g, 3, none⟩ (.bool o')) g s l v o' := (blk_set h 3 _).trans rfl
theorem SL.keep {w w1 : World} {g : Nat} {s : ByteArray} {l : List Int} {v : Value} {o : Bool} {S : Nat → Prop} (h : SL w g s l v o) (k : Keep S w w1) (hg : ¬ S g) : SL w1 g s l v o := k.blk h hg

theorem runeAt_sfx (s : ByteArray) (l : List Int) (h : Sfx s l) (hs : s.size ≤ 1099511627776) (w : World) :
    Calls Tryz.prog 27 #[.string s, .int .i64 (ps s l)] w fun e w' => e = .returned (.tuple #[.int .i64 (hd l), .int .i64 (wdl l)]) ∧ w = w' := by
  have := runeAt_calls s (ps s l) w (by omega)
  rw [rAt_sfx h] at this
  exact this

/-- A loop of peek: after j steps. -/
def PK (s : ByteArray) (l : List Int) (k : Nat) (a b : Value) : Prop := ∃ j : Nat, j ≤ k ∧ a = .int .i64 (ps s (l.drop j)) ∧ b = .int .i64 j
theorem PK.next {s : ByteArray} {l : List Int} (h : Sfx s l) {k j : Nat} (hj : j < k) {a b : Value} (ha : a = .int .i64 ((ps s (l.drop j) : Int) + wdl (l.drop j))) (hb : b = .int .i64 ((j : Int) + 1)) : PK s l k a b :=
  ⟨j + 1, by omega, by
    have := ps_step (h.drop j)
    rw [List.tail_drop] at this
    rw [ha, this]; simp, by rw [hb]; simp⟩
set_option maxHeartbeats 1000000 in
/-- peek: the code point that comes next but so many. -/
theorem peek_calls (g k : Nat) (hk : k ≤ 3) (s : ByteArray) (l : List Int) (v : Value) (o : Bool) (hS : Sfx s l) (hs : s.size ≤ 1099511627776) (w : World) (h : SL w g s l v o) :
    Calls Tryz.prog 35 #[.pointer (some ⟨g, 0, none⟩), .int .i64 k] w fun e w' => e = .returned (.int .i64 (pk l k)) ∧ w = w' := by
  have c0 := h.c0
  have c1 := h.c1
  go_enter Tryz.func35, Tryz.ntmps35
  go_wp2
  go_loop [5, 15] (fun a b => PK s l k a b) (fun _ b => k - (intOf b).toNat)
  case atStart => exact ⟨0, by omega, by simp, rfl⟩
  case round =>
    obtain ⟨j, hj, rfl, rfl⟩ := hrel
    have b1 := ps_le s (l.drop j)
    have b2 := ps_le s (l.drop j).tail
    have b3 := ps_step (hS.drop j)
    have b4 : ps s (l.drop j) + wdl (l.drop j) ≤ 1099511627776 := by omega
    clear b2 b3
    by_cases hl : j < k
    · go_wp2_with (go_at_call 27; refine (runeAt_sfx s (l.drop j) (hS.drop j) hs _).mono ?_; rintro e w' ⟨rfl, rfl⟩)
      go_round
      case rel => exact PK.next hS hl rfl rfl
      case measure => simp [intOf]; omega
    · obtain rfl : j = k := by omega
      go_wp2_with (go_at_call 27; refine (runeAt_sfx s (l.drop j) (hS.drop j) hs _).mono ?_; rintro e w' ⟨rfl, rfl⟩)
      go_ret
      exact ⟨rfl, rfl⟩

/-- The reference's lexer in memory, what stands behind its place, and what has been kept since w0. -/
structure SA (w0 w : World) (g : Nat) (s : ByteArray) (l : List Int) (v : Value) (o : Bool) : Prop where
  sl : SL w g s l v o
  sfx : Sfx s l
  kp : KeepB g w0 w
  size : s.size ≤ 1099511627776
theorem peek_sa {w0 w : World} {g : Nat} {s : ByteArray} {l : List Int} {v : Value} {o : Bool} (h : SA w0 w g s l v o) (k : Nat) (hk : k ≤ 3) :
    Calls Tryz.prog 35 #[.pointer (some ⟨g, 0, none⟩), .int .i64 k] w fun e w' => e = .returned (.int .i64 (pk l k)) ∧ w = w' := peek_calls g k hk s l v o h.sfx h.size w h.sl
theorem peek0 {w0 w : World} {g : Nat} {s : ByteArray} {l : List Int} {v : Value} {o : Bool} (h : SA w0 w g s l v o) :
    Calls Tryz.prog 35 #[.pointer (some ⟨g, 0, none⟩), .int .i64 0] w fun e w' => e = .returned (.int .i64 (hd l)) ∧ w = w' := by
  have := peek_sa h 0 (by omega)
  rw [pk_zero] at this
  exact this
theorem peek1 {w0 w : World} {g : Nat} {s : ByteArray} {l : List Int} {v : Value} {o : Bool} (h : SA w0 w g s l v o) :
    Calls Tryz.prog 35 #[.pointer (some ⟨g, 0, none⟩), .int .i64 1] w fun e w' => e = .returned (.int .i64 (pk l 1)) ∧ w = w' := peek_sa h 1 (by omega)
theorem peek2 {w0 w : World} {g : Nat} {s : ByteArray} {l : List Int} {v : Value} {o : Bool} (h : SA w0 w g s l v o) :
    Calls Tryz.prog 35 #[.pointer (some ⟨g, 0, none⟩), .int .i64 2] w fun e w' => e = .returned (.int .i64 (pk l 2)) ∧ w = w' := peek_sa h 2 (by omega)
theorem peek3 {w0 w : World} {g : Nat} {s : ByteArray} {l : List Int} {v : Value} {o : Bool} (h : SA w0 w g s l v o) :
    Calls Tryz.prog 35 #[.pointer (some ⟨g, 0, none⟩), .int .i64 3] w fun e w' => e = .returned (.int .i64 (pk l 3)) ∧ w = w' := peek_sa h 3 (by omega)

set_option maxHeartbeats 1000000 in
/-- take: the next code point. -/
theorem take_sa {w0 w : World} {g : Nat} {s : ByteArray} {l : List Int} {v : Value} {o : Bool} (h : SA w0 w g s l v o) :
    Calls Tryz.prog 36 #[.pointer (some ⟨g, 0, none⟩)] w fun e w' => e = .returned (.int .i64 (hd l)) ∧ SA w0 w' g s l.tail v o := by
  obtain ⟨hl, hS, hk, hs⟩ := h
  have c0 := hl.c0
  have c1 := hl.c1
  have f1 := blk_frozen hl 1
  have b1 := ps_le s l.tail
  have b3 := Lib.hid (ps_step hS)
  have b4 : ps s l + wdl l ≤ 1099511627776 := by have := b3.out; omega
  clear b1
  go_enter Tryz.func36, Tryz.ntmps36
  go_wp2
  go_quiet ((go_at_call 27; exact Calls.quiet_of_same ((runeAt_sfx s l hS hs _).mono fun e w' ⟨a, b⟩ => ⟨a, b.symm⟩)))
  go_wp2
  go_ret
  exact ⟨rfl, ⟨SL.set1 (w := w.drewN nq) hl l.tail (by rw [b3.out]; simp), hS.tl, (hk.drewN nq).setCell (fun _ => rfl) _, hs⟩⟩

/-- A loop that takes as long as a test holds. -/
def WH (p : Int → Bool) (w0 : World) (g : Nat) (s : ByteArray) (l : List Int) (v : Value) (o : Bool) (k : Nat) (w : World) : Prop :=
  ∃ l', l'.length = k ∧ l'.dropWhile p = l.dropWhile p ∧ SA w0 w g s l' v o
theorem isSp_end : isSp (-1) = false := by decide
theorem isDg_end : isDg (-1) = false := by decide
theorem dropWhile_stop {p : Int → Bool} {l : List Int} (h : p (hd l) = false) : l.dropWhile p = l := by
  cases l with
  | nil => rfl
  | cons c t => simp only [hd_cons] at h; simp [h]
theorem dropWhile_go {p : Int → Bool} {l : List Int} (hp : p (-1) = false) (h : p (hd l) = true) : l.dropWhile p = l.tail.dropWhile p ∧ l.tail.length < l.length := by
  cases l with
  | nil => simp only [hd_nil, hp] at h; cases h
  | cons c t => simp only [hd_cons] at h; simp [h]
set_option maxHeartbeats 1000000 in
theorem spaces_sa {w0 w : World} {g : Nat} {s : ByteArray} {l : List Int} {v : Value} {o : Bool} (h : SA w0 w g s l v o) :
    Calls Tryz.prog 38 #[.pointer (some ⟨g, 0, none⟩)] w fun e w' => e = .returned (.tuple #[]) ∧ SA w0 w' g s (spaceF l) v o := by
  go_enter Tryz.func38, Tryz.ntmps38
  go_wp2_with fail
  go_loopg [] l.length (fun k wr => WH isSp w0 g s l v o k wr)
  case atStart => exact ⟨l, rfl, rfl, h⟩
  case round =>
    obtain ⟨l', hk, hd', hA⟩ := hrel
    have HK := Lib.hid hk
    have HD := Lib.hid hd'
    clear hk hd' h
    cases ht : isSp (hd l')
    · have HE := Lib.hid (dropWhile_stop ht)
      go_wp2_with (first | (go_at_call 35; refine (peek0 hA).mono ?_; rintro e w' ⟨rfl, rfl⟩) | (go_at_call 37; refine (isSpace_calls _ _).mono ?_; rintro e w' ⟨rfl, rfl⟩))
      go_end0
      refine ⟨rfl, ?_⟩
      have e1 : l' = spaceF l := by unfold spaceF; rw [← HD.out, HE.out]
      rw [← e1]; exact hA
    · have HE := Lib.hid (dropWhile_go isSp_end ht)
      go_wp2_with (first | (go_at_call 35; refine (peek0 hA).mono ?_; rintro e w' ⟨rfl, rfl⟩) | (go_at_call 37; refine (isSpace_calls _ _).mono ?_; rintro e w' ⟨rfl, rfl⟩) | (go_at_call 36; refine (take_sa hA).mono ?_; rintro e w' ⟨rfl, hA2⟩))
      go_roundg l'.tail.length
      case measure => rw [← HK.out]; exact HE.out.2
      case rel => exact ⟨l'.tail, rfl, by rw [← HE.out.1]; exact HD.out, hA2⟩
set_option maxHeartbeats 1000000 in
theorem digits_sa {w0 w : World} {g : Nat} {s : ByteArray} {l : List Int} {v : Value} {o : Bool} (h : SA w0 w g s l v o) :
    Calls Tryz.prog 69 #[.pointer (some ⟨g, 0, none⟩)] w fun e w' => e = .returned (.tuple #[]) ∧ SA w0 w' g s (digitF l) v o := by
  go_enter Tryz.func69, Tryz.ntmps69
  go_wp2_with fail
  go_loopg [] l.length (fun k wr => WH isDg w0 g s l v o k wr)
  case atStart => exact ⟨l, rfl, rfl, h⟩
  case round =>
    obtain ⟨l', hk, hd', hA⟩ := hrel
    have HK := Lib.hid hk
    have HD := Lib.hid hd'
    clear hk hd' h
    cases ht : isDg (hd l')
    · have HE := Lib.hid (dropWhile_stop ht)
      go_wp2_with (first | (go_at_call 35; refine (peek0 hA).mono ?_; rintro e w' ⟨rfl, rfl⟩) | (go_at_call 68; refine (isDigit_calls _ _).mono ?_; rintro e w' ⟨rfl, rfl⟩))
      go_end0
      refine ⟨rfl, ?_⟩
      have e1 : l' = digitF l := by unfold digitF; rw [← HD.out, HE.out]
      rw [← e1]; exact hA
    · have HE := Lib.hid (dropWhile_go isDg_end ht)
      go_wp2_with (first | (go_at_call 35; refine (peek0 hA).mono ?_; rintro e w' ⟨rfl, rfl⟩) | (go_at_call 68; refine (isDigit_calls _ _).mono ?_; rintro e w' ⟨rfl, rfl⟩) | (go_at_call 36; refine (take_sa hA).mono ?_; rintro e w' ⟨rfl, hA2⟩))
      go_roundg l'.tail.length
      case measure => rw [← HK.out]; exact HE.out.2
      case rel => exact ⟨l'.tail, rfl, by rw [← HE.out.1]; exact HD.out, hA2⟩

set_option maxHeartbeats 1000000 in
theorem newline_sa {w0 w : World} {g : Nat} {s : ByteArray} {l : List Int} {v : Value} {o : Bool} (h : SA w0 w g s l v o) :
    Calls Tryz.prog 64 #[.pointer (some ⟨g, 0, none⟩)] w fun e w' => e = .returned (.tuple #[]) ∧ SA w0 w' g s (nlTake l) v o := by
  by_cases h1 : hd l = 13
  · by_cases h2 : hd l.tail = 10
    · have HE : Hid (nlTake l = l.tail.tail) := by
        cases l with
        | nil => simp at h1
        | cons c t => simp only [hd_cons, List.tail_cons] at h1 h2; exact Lib.hid (by simp [nlTake, h1, h2])
      have b1 : (hd l == 13) = true := by simp [h1]
      have b2 : (hd l.tail == 10) = true := by simp [h2]
      clear h1 h2
      go_enter Tryz.func64, Tryz.ntmps64
      go_wp2_with fail
      refine (take_sa h).mono ?_
      rintro e w1 ⟨rfl, hA⟩
      go_wp2_with (go_at_call 35; (with_reducible refine (peek0 hA).mono ?_); rintro e w' ⟨rfl, rfl⟩)
      refine (take_sa hA).mono ?_
      rintro e w2 ⟨rfl, hA2⟩
      go_wp2_with fail
      go_end0
      exact ⟨rfl, by rw [HE.out]; exact hA2⟩
    · have HE : Hid (nlTake l = l.tail) := by
        cases l with
        | nil => simp at h1
        | cons c t => simp only [hd_cons, List.tail_cons] at h1 h2; exact Lib.hid (by simp [nlTake, h2])
      have b1 : (hd l == 13) = true := by simp [h1]
      have b2 : (hd l.tail == 10) = false := by simp [h2]
      clear h1 h2
      go_enter Tryz.func64, Tryz.ntmps64
      go_wp2_with fail
      refine (take_sa h).mono ?_
      rintro e w1 ⟨rfl, hA⟩
      go_wp2_with (go_at_call 35; (with_reducible refine (peek0 hA).mono ?_); rintro e w' ⟨rfl, rfl⟩)
      go_end0
      exact ⟨rfl, by rw [HE.out]; exact hA⟩
  · have HE : Hid (nlTake l = l.tail) := by
      cases l with
      | nil => exact Lib.hid rfl
      | cons c t => simp only [hd_cons] at h1; exact Lib.hid (by simp [nlTake, h1])
    have b1 : (hd l == 13) = false := by simp [h1]
    clear h1
    go_enter Tryz.func64, Tryz.ntmps64
    go_wp2_with fail
    refine (take_sa h).mono ?_
    rintro e w1 ⟨rfl, hA⟩
    go_wp2_with fail
    go_end0
    exact ⟨rfl, by rw [HE.out]; exact hA⟩

set_option maxHeartbeats 1000000 in
theorem hex_calls (c : Int) (w : World) : Calls Tryz.prog 90 #[.int .i64 c] w fun e w' => e = .returned (.int .i64 (hexv c)) ∧ w = w' := by
  by_cases h1 : 48 ≤ c ∧ c ≤ 57
  · have hd' : isDg c = true := by simp [isDg, h1]
    obtain ⟨h2, h3⟩ := h1
    go_enter Tryz.func90, Tryz.ntmps90
    go_wp2_with (go_at_call 68; refine (isDigit_calls _ _).mono ?_; rintro e w' ⟨rfl, rfl⟩)
    go_ret
    exact ⟨ret_int (by unfold hexv; rw [if_pos ⟨h2, h3⟩]), rfl⟩
  · have hd' : isDg c = false := by simp [isDg]; omega
    by_cases h2 : 97 ≤ c ∧ c ≤ 102
    · have HE : Hid (hexv c = c - 97 + 10) := Lib.hid (by unfold hexv; rw [if_neg h1, if_pos h2]; omega)
      obtain ⟨h3, h4⟩ := h2
      clear h1
      go_enter Tryz.func90, Tryz.ntmps90
      go_wp2_with (go_at_call 68; refine (isDigit_calls _ _).mono ?_; rintro e w' ⟨rfl, rfl⟩)
      go_ret
      exact ⟨ret_int HE.out.symm, rfl⟩
    · by_cases h5 : 65 ≤ c ∧ c ≤ 70
      · have HE : Hid (hexv c = c - 65 + 10) := Lib.hid (by unfold hexv; rw [if_neg h1, if_neg h2, if_pos h5]; omega)
        obtain ⟨h3, h4⟩ := h5
        clear h1 h2
        go_enter Tryz.func90, Tryz.ntmps90
        go_wp2_with (go_at_call 68; refine (isDigit_calls _ _).mono ?_; rintro e w' ⟨rfl, rfl⟩)
        go_ret
        exact ⟨ret_int HE.out.symm, rfl⟩
      · have HE : Hid (hexv c = -1) := Lib.hid (by unfold hexv; rw [if_neg h1, if_neg h2, if_neg h5])
        have H2 := Lib.hid h2
        have H5 := Lib.hid h5
        clear h1 h2 h5
        go_enter Tryz.func90, Tryz.ntmps90
        go_wp2_with (go_at_call 68; refine (isDigit_calls _ _).mono ?_; rintro e w' ⟨rfl, rfl⟩)
        all_goals first | (go_ret; exact ⟨ret_int HE.out.symm, rfl⟩) | (exfalso; have := H2.out; have := H5.out; omega)
end Go.Proofs.YtedckphklebndaaGreatDoor
/- The reference's escape, walked. Conditions: those of the lexer in memory (SA). -/
namespace Go.Proofs.YtedckphklebndaaGreatDoor
open Go Go.RowKit
/-- escape's loop over digits. -/
def HX (w0 : World) (g : Nat) (s : ByteArray) (l : List Int) (v : Value) (o : Bool) (n : Nat) (a b : Value) (w : World) : Prop :=
  ∃ l' x, n ≤ 6 ∧ a = .int .i64 x ∧ b = .int .i64 (6 - (n : Int)) ∧ 0 ≤ x ∧ x < 16 ^ (6 - n) ∧ hexs n x l' = hexs 6 0 l ∧ SA w0 w g s l' v o
theorem hexv_lt (c : Int) : -1 ≤ hexv c ∧ hexv c < 16 := by unfold hexv; repeat' split
                                                            all_goals omega
theorem hexs_go {n : Nat} {x : Int} {l : List Int} (h : 0 ≤ hexv (hd l)) : hexs (n + 1) x l = hexs n (x * 16 + hexv (hd l)) l.tail := by
  cases l with
  | nil => simp [hexv] at h
  | cons c t => simp only [hd_cons] at h; simp [hexs, h]
theorem hexs_stop {n : Nat} {x : Int} {l : List Int} (h : ¬ 0 ≤ hexv (hd l)) : hexs n x l = (x, l) := by
  cases n with
  | zero => rfl
  | succ n =>
    cases l with
    | nil => rfl
    | cons c t => simp only [hd_cons] at h; simp [hexs, h]
theorem HX.next {w0 : World} {g : Nat} {s : ByteArray} {l : List Int} {v : Value} {o : Bool} {n : Nat} {l' : List Int} {x : Int} {w : World} {a b : Value} (hn : n + 1 ≤ 6) (h0 : 0 ≤ x) (h1 : x < 16 ^ (6 - (n + 1))) (he : hexs (n + 1) x l' = hexs 6 0 l) (hv : 0 ≤ hexv (hd l'))
    (ha : a = .int .i64 (x * 16 + hexv (hd l'))) (hb : b = .int .i64 (6 - ((n : Int) + 1) + 1)) (hA : SA w0 w g s l'.tail v o) : HX w0 g s l v o n a b w := by
  have := hexv_lt (hd l')
  refine ⟨l'.tail, x * 16 + hexv (hd l'), by omega, ha, by rw [hb]; congr 1; omega, by omega, ?_, by rw [← he, hexs_go hv], hA⟩
  have e : 6 - n = (6 - (n + 1)) + 1 := by omega
  rw [e, Int.pow_succ]
  omega
theorem pow_small {n : Nat} (_h : n ≤ 6) {x : Int} (h1 : x < 16 ^ (6 - n)) : x < 16777217 := by
  have hn : n = 0 ∨ n = 1 ∨ n = 2 ∨ n = 3 ∨ n = 4 ∨ n = 5 ∨ n = 6 := by omega
  rcases hn with rfl | rfl | rfl | rfl | rfl | rfl | rfl <;> simp only [Nat.reduceSub, Int.reducePow] at h1 <;> omega
theorem escVal_rn (v : Int) (h : 0 ≤ v) : Rn (escVal v) := by
  unfold escVal Rn; split <;> omega
theorem esc_cases (x : Int) (x0 : 0 ≤ x) : ((x == 0) = true ∧ Hid (escVal x = 65533)) ∨ ((x == 0) = false ∧ 1114111 < x ∧ Hid (escVal x = 65533)) ∨ ((x == 0) = false ∧ 55296 ≤ x ∧ x < 57344 ∧ Hid (escVal x = 65533)) ∨ ((x == 0) = false ∧ x < 55296 ∧ Hid (escVal x = x)) ∨ ((x == 0) = false ∧ 57344 ≤ x ∧ x ≤ 1114111 ∧ Hid (escVal x = x)) := by
  by_cases h1 : x = 0
  · exact .inl ⟨by simp [h1], Lib.hid (by unfold escVal; rw [if_pos (by omega)])⟩
  · have e : (x == 0) = false := by simp [h1]
    by_cases h2 : 1114111 < x
    · exact .inr (.inl ⟨e, h2, Lib.hid (by unfold escVal; rw [if_pos (by omega)])⟩)
    · by_cases h3 : x < 55296
      · exact .inr (.inr (.inr (.inl ⟨e, h3, Lib.hid (by unfold escVal; rw [if_neg (by omega)])⟩)))
      · by_cases h4 : x < 57344
        · exact .inr (.inr (.inl ⟨e, by omega, h4, Lib.hid (by unfold escVal; rw [if_pos (by omega)])⟩))
        · exact .inr (.inr (.inr (.inr ⟨e, by omega, by omega, Lib.hid (by unfold escVal; rw [if_neg (by omega)])⟩)))
set_option maxHeartbeats 2000000 in
theorem escape_sa {w0 w : World} {g : Nat} {s : ByteArray} {l : List Int} {v : Value} {o : Bool} (h : SA w0 w g s l v o) :
    Calls Tryz.prog 66 #[.pointer (some ⟨g, 0, none⟩)] w fun e w' => e = .returned (.int .i64 (escF l).1) ∧ SA w0 w' g s (escF l).2.1 v (o || (escF l).2.2) := by
  by_cases hx : hexv (hd l) < 0
  · cases l with
    | nil =>
      clear hx
      have b1 : hexv (-1) = -1 := rfl
      go_enter Tryz.func66, Tryz.ntmps66
      go_wp2_with (first | (go_at_call 35; (with_reducible refine (peek0 h).mono ?_); rintro e w' ⟨rfl, rfl⟩) | (go_at_call 90; refine (hex_calls _ _).mono ?_; rintro e w' ⟨rfl, rfl⟩))
      refine (take_sa h).mono ?_
      rintro e w1 ⟨rfl, hA⟩
      have c3 := hA.sl.c3
      have f3 := blk_frozen hA.sl 3
      go_wp2
      go_ret
      refine ⟨rfl, ⟨?_, hA.sfx, hA.kp.setCell (fun _ => rfl) _, hA.size⟩⟩
      have := hA.sl.set3 true
      simpa [escF] using this
    | cons c t =>
      have HE : Hid (escF (c :: t) = (c, t, false)) := Lib.hid (by simp only [hd_cons] at hx; simp [escF, hx])
      have hc := h.sfx.all.head
      have b0 : (c == -1) = false := by have := hc.1; simp; omega
      simp only [hd_cons] at hx
      go_enter Tryz.func66, Tryz.ntmps66
      go_wp2_with (first | (go_at_call 35; (with_reducible refine (peek0 h).mono ?_); rintro e w' ⟨rfl, rfl⟩) | (go_at_call 90; refine (hex_calls _ _).mono ?_; rintro e w' ⟨rfl, rfl⟩))
      refine (take_sa h).mono ?_
      rintro e w1 ⟨rfl, hA⟩
      go_wp2
      go_ret
      rw [HE.out]
      exact ⟨rfl, by simpa using hA⟩
  · cases l with
    | nil => simp [hexv] at hx
    | cons c t =>
      have hx' : ¬ hexv c < 0 := by simpa using hx
      have HE : Hid (escF (c :: t) = (escVal (hexs 6 0 (c :: t)).1, escRest (hexs 6 0 (c :: t)).2, isNL (hd (hexs 6 0 (c :: t)).2))) := Lib.hid (by simp [escF, hx'])
      have b0 : 0 ≤ hexv c := by omega
      clear hx hx'
      go_enter Tryz.func66, Tryz.ntmps66
      go_wp2_with (first | (go_at_call 35; (with_reducible refine (peek0 h).mono ?_); rintro e w' ⟨rfl, rfl⟩) | (go_at_call 90; refine (hex_calls _ _).mono ?_; rintro e w' ⟨rfl, rfl⟩))
      go_loopg [4, 5] 6 (fun k a b wr => HX w0 g s (c :: t) v o k a b wr)
      case atStart => exact ⟨c :: t, 0, by omega, rfl, rfl, by omega, by decide, rfl, h⟩
      case round =>
        obtain ⟨l', x, hn, rfl, rfl, x0, x1, he, hA⟩ := hrel
        clear h b0
        have HX1 := Lib.hid x1
        have HQ := Lib.hid he
        have x2 := pow_small hn x1
        clear x1 he
        by_cases hg : 0 < gk ∧ 0 ≤ hexv (hd l')
        · obtain ⟨g1, g2⟩ := hg
          obtain ⟨n, rfl⟩ : ∃ n, gk = n + 1 := ⟨gk - 1, by omega⟩
          have g3 := (hexv_lt (hd l')).2
          go_wp2_with (first | (go_at_call 35; (with_reducible refine (peek0 hA).mono ?_); rintro e w' ⟨rfl, rfl⟩) | (go_at_call 90; refine (hex_calls _ _).mono ?_; rintro e w' ⟨rfl, rfl⟩) | (go_at_call 36; refine (take_sa hA).mono ?_; rintro e w' ⟨rfl, hA2⟩))
          go_roundg n
          case measure => omega
          case rel => exact HX.next hn x0 HX1.out HQ.out g2 rfl rfl hA2
        · have HS : Hid (hexs 6 0 (c :: t) = (x, l')) := by
            have e := HQ.out
            rcases Nat.eq_zero_or_pos gk with h0 | h0
            · subst h0; exact Lib.hid e.symm
            · rw [hexs_stop (by omega)] at e; exact Lib.hid e.symm
          have HF : Hid (escF (c :: t) = (escVal x, escRest l', isNL (hd l'))) := Lib.hid (by rw [HE.out, HS.out])
          clear HE HQ HS HX1
          rcases (by omega : gk = 0 ∨ (0 < gk ∧ hexv (hd l') < 0)) with h0 | ⟨h0, h0'⟩
          all_goals
            clear hg
            try subst h0
            cases ht : isNL (hd l')
            · cases hu : isSp (hd l')
              · have HR : Hid (escRest l' = l') := Lib.hid (by unfold escRest; rw [ht, hu]; rfl)
                rcases esc_cases x x0 with ⟨b1, HV⟩ | ⟨b1, b2, HV⟩ | ⟨b1, b2, b3, HV⟩ | ⟨b1, b2, HV⟩ | ⟨b1, b2, b3, HV⟩
                all_goals
                  go_wp2_with (first | (go_at_call 35; (with_reducible refine (peek0 hA).mono ?_); rintro e w' ⟨rfl, rfl⟩) | (go_at_call 90; refine (hex_calls _ _).mono ?_; rintro e w' ⟨rfl, rfl⟩) | (go_at_call 63; refine (isNewline_calls _ _).mono ?_; rintro e w' ⟨rfl, rfl⟩) | (go_at_call 37; refine (isSpace_calls _ _).mono ?_; rintro e w' ⟨rfl, rfl⟩))
                  go_ret
                  rw [HF.out]
                  exact ⟨ret_int HV.out.symm, by simpa [HR.out, ht] using hA⟩
              · have HR : Hid (escRest l' = l'.tail) := Lib.hid (by unfold escRest; rw [ht, hu]; rfl)
                rcases esc_cases x x0 with ⟨b1, HV⟩ | ⟨b1, b2, HV⟩ | ⟨b1, b2, b3, HV⟩ | ⟨b1, b2, HV⟩ | ⟨b1, b2, b3, HV⟩
                all_goals
                  go_wp2_with (first | (go_at_call 35; (with_reducible refine (peek0 hA).mono ?_); rintro e w' ⟨rfl, rfl⟩) | (go_at_call 90; refine (hex_calls _ _).mono ?_; rintro e w' ⟨rfl, rfl⟩) | (go_at_call 63; refine (isNewline_calls _ _).mono ?_; rintro e w' ⟨rfl, rfl⟩) | (go_at_call 37; refine (isSpace_calls _ _).mono ?_; rintro e w' ⟨rfl, rfl⟩))
                  refine (take_sa hA).mono ?_
                  rintro e w2 ⟨rfl, hA2⟩
                  go_wp2
                  go_ret
                  rw [HF.out]
                  exact ⟨ret_int HV.out.symm, by simpa [HR.out, ht] using hA2⟩
            · have HR : Hid (escRest l' = nlTake l') := Lib.hid (by unfold escRest; rw [ht]; rfl)
              have c3 := hA.sl.c3
              have f3 := blk_frozen hA.sl 3
              have hA1 : SA w0 (wr.setCell ⟨g, 3, none⟩ (.bool true)) g s l' v true := ⟨hA.sl.set3 true, hA.sfx, hA.kp.setCell (fun _ => rfl) _, hA.size⟩
              rcases esc_cases x x0 with ⟨b1, HV⟩ | ⟨b1, b2, HV⟩ | ⟨b1, b2, b3, HV⟩ | ⟨b1, b2, HV⟩ | ⟨b1, b2, b3, HV⟩
              all_goals
                go_wp2_with (first | (go_at_call 35; (with_reducible refine (peek0 hA).mono ?_); rintro e w' ⟨rfl, rfl⟩) | (go_at_call 90; refine (hex_calls _ _).mono ?_; rintro e w' ⟨rfl, rfl⟩) | (go_at_call 63; refine (isNewline_calls _ _).mono ?_; rintro e w' ⟨rfl, rfl⟩) | (go_at_call 37; refine (isSpace_calls _ _).mono ?_; rintro e w' ⟨rfl, rfl⟩))
                refine (newline_sa hA1).mono ?_
                rintro e w2 ⟨rfl, hA2⟩
                go_wp2
                go_ret
                rw [HF.out]
                exact ⟨ret_int HV.out.symm, by simpa [HR.out, ht] using hA2⟩

end Go.Proofs.YtedckphklebndaaGreatDoor
/- The reference's name, walked. Conditions: those of the lexer in memory (SA). -/
namespace Go.Proofs.YtedckphklebndaaGreatDoor
open Go Go.RowKit
theorem SA.keepA {w0 w w1 : World} {g : Nat} {s : ByteArray} {l : List Int} {v : Value} {o : Bool} (h : SA w0 w g s l v o) (k : KeepA w w1) : SA w0 w1 g s l v o :=
  ⟨h.sl.keep k (fun x => x), h.sfx, h.kp.trans (k.mono (fun _ _ x => x.elim)), h.size⟩
theorem enc_len (c : Int) : (enc c).length ≤ 4 := (wd_pos c).2
theorem encs_len (l : List Int) : l.length ≤ (encs l).length := by
  induction l with
  | nil => simp
  | cons c l ih => have := (wd_pos c).1; unfold wd at this; simp only [encs, List.length_append, List.length_cons]; omega
theorem SA.len {w0 w : World} {g : Nat} {s : ByteArray} {l : List Int} {v : Value} {o : Bool} (h : SA w0 w g s l v o) : l.length ≤ 1099511627776 := by
  have := encs_len l; have := h.sfx.fits; have := h.size; omega
theorem nameF_cont {l : List Int} (h : cont (hd l) = true) : nameF l = (enc (hd l) ++ (nameF l.tail).1, (nameF l.tail).2) := by
  cases l with
  | nil => simp [cont, strt, isDg] at h
  | cons c t => simp only [hd_cons] at h; rw [nameF]; simp [h]
theorem nameF_esc {l : List Int} (h : cont (hd l) = false) (h2 : escs (hd l) (pk l 1) = true) :
    nameF l = (enc (escF l.tail).1 ++ (nameF (escF l.tail).2.1).1, (nameF (escF l.tail).2.1).2.1, (escF l.tail).2.2 || (nameF (escF l.tail).2.1).2.2) := by
  cases l with
  | nil => simp [escs] at h2
  | cons c t => simp only [hd_cons, pk_cons, pk_zero] at h h2; rw [nameF]; simp [h, h2]
theorem nameF_stop {l : List Int} (h : cont (hd l) = false) (h2 : escs (hd l) (pk l 1) = false) : nameF l = ([], l, false) := by
  cases l with
  | nil => simp [nameF]
  | cons c t => simp only [hd_cons, pk_cons, pk_zero] at h h2; rw [nameF]; simp [h, h2]
theorem nameF_text (l : List Int) : (nameF l).1.length ≤ 4 * l.length := by
  induction hn : l.length using Nat.strongRecOn generalizing l with
  | _ n ih =>
    cases l with
    | nil => simp [nameF]
    | cons c t =>
      have e1 := enc_len c
      have e2 := enc_len (escF t).1
      have e3 := escF_le t
      simp only [List.length_cons] at hn
      rw [nameF]
      split
      · have := ih t.length (by omega) t rfl
        simp only [List.length_append]; omega
      · split
        · have := ih (escF t).2.1.length (by omega) _ rfl
          simp only [List.length_append]; omega
        · simp
/-- name's loop. -/
def NM (w0 : World) (g : Nat) (s : ByteArray) (l : List Int) (v : Value) (o : Bool) (k : Nat) (a : Value) (w : World) : Prop :=
  ∃ l' x o', l'.length = k ∧ a = .string x ∧ x.data.toList ++ (nameF l').1 = (nameF l).1 ∧ (nameF l').2.1 = (nameF l).2.1 ∧ (o' || (nameF l').2.2) = (o || (nameF l).2.2) ∧ SA w0 w g s l' v o'
theorem str_room {x : ByteArray} {q e r t : List UInt8} {n : Nat} (h : x.data.toList ++ q = t) (hq : q = e ++ r) (hn : t.length ≤ 4 * n) (h2 : n ≤ 1099511627776) : x.size + e.length ≤ 4398046511104 := by
  subst hq
  have := congrArg List.length h
  simp only [List.length_append, ← Lib.size_eq] at this
  omega
theorem str_app (x : ByteArray) (e r : List UInt8) : (x ++ (⟨e.toArray⟩ : ByteArray)).data.toList ++ r = x.data.toList ++ (e ++ r) := by
  simp [ByteArray.data_append]
theorem escs_end (b : Int) : escs (-1) b = false := rfl
theorem hd_rn {l : List Int} (h : RnAll l) (h2 : hd l ≠ -1) : Rn (hd l) := by
  cases l with
  | nil => exact absurd rfl h2
  | cons c t => exact h.head
theorem escF_rn {l : List Int} (h : RnAll l) : Rn (escF l).1 := by
  cases l with
  | nil => exact ⟨by decide, by decide, by decide⟩
  | cons c t =>
    simp only [escF]
    split
    · exact h.head
    · refine escVal_rn _ ?_
      have : ∀ n x (l : List Int), 0 ≤ x → 0 ≤ (hexs n x l).1 := by
        intro n
        induction n with
        | zero => intro x l hx; exact hx
        | succ n ih =>
          intro x l hx
          cases l with
          | nil => exact hx
          | cons c t =>
            simp only [hexs]
            split
            · exact ih _ _ (by omega)
            · exact hx
      exact this _ _ _ (by omega)
set_option maxHeartbeats 2000000 in
theorem name_sa {w0 w : World} {g : Nat} {s : ByteArray} {l : List Int} {v : Value} {o : Bool} (h : SA w0 w g s l v o) :
    Calls Tryz.prog 43 #[.pointer (some ⟨g, 0, none⟩)] w fun e w' => e = .returned (.string ⟨(nameF l).1.toArray⟩) ∧ SA w0 w' g s (nameF l).2.1 v (o || (nameF l).2.2) := by
  have HT := Lib.hid (nameF_text l)
  have HN := Lib.hid h.len
  go_enter Tryz.func43, Tryz.ntmps43
  go_wp2_with fail
  go_loopg [3] l.length (fun k a wr => NM w0 g s l v o k a wr)
  case atStart => exact ⟨l, _, o, rfl, rfl, by simp, rfl, rfl, h⟩
  case round =>
    obtain ⟨l', x, o', hk, rfl, h1, h2, h3, hA⟩ := hrel
    have HK := Lib.hid hk
    have H1 := Lib.hid h1
    have H2 := Lib.hid h2
    have H3 := Lib.hid h3
    clear hk h1 h2 h3 h
    cases hc : cont (hd l')
    · cases he : escs (hd l') (pk l' 1)
      · have HE := Lib.hid (nameF_stop hc he)
        go_wp2_with (first | (go_at_call 35; (with_reducible refine (peek0 hA).mono ?_); rintro e w' ⟨rfl, rfl⟩) | (go_at_call 35; (with_reducible refine (peek1 hA).mono ?_); rintro e w' ⟨rfl, rfl⟩) | (go_at_call 40; refine (Continues_calls _ _).mono ?_; rintro e w' ⟨rfl, rfl⟩) | (go_at_call 41; refine (escapes_calls _ _ _).mono ?_; rintro e w' ⟨rfl, rfl⟩))
        go_ret
        have a1 := H1.out
        have a2 := H2.out
        have a3 := H3.out
        rw [HE.out] at a1 a2 a3
        simp only [List.append_nil, Bool.or_false] at a1 a2 a3
        exact ⟨ret_str (by rw [← a1]), by rw [← a2, ← a3]; exact hA⟩
      · have HE := Lib.hid (nameF_esc hc he)
        have HR := Lib.hid (str_room H1.out (congrArg (·.1) HE.out) HT.out HN.out : x.size + (enc (escF l'.tail).1).length ≤ 4398046511104)
        have HL : Hid ((escF l'.tail).2.1.length < gk) := by
          have := escF_le l'.tail
          rw [← HK.out]
          cases l' with
          | nil => simp [escs] at he
          | cons c t => simp only [List.tail_cons] at *; exact Lib.hid (by simp only [List.length_cons]; omega)
        go_wp2_with (first | (go_at_call 35; (with_reducible refine (peek0 hA).mono ?_); rintro e w' ⟨rfl, rfl⟩) | (go_at_call 35; (with_reducible refine (peek1 hA).mono ?_); rintro e w' ⟨rfl, rfl⟩) | (go_at_call 40; refine (Continues_calls _ _).mono ?_; rintro e w' ⟨rfl, rfl⟩) | (go_at_call 41; refine (escapes_calls _ _ _).mono ?_; rintro e w' ⟨rfl, rfl⟩))
        refine (take_sa hA).mono ?_
        rintro e w1 ⟨rfl, hA1⟩
        go_wp2_with fail
        refine (escape_sa hA1).mono ?_
        rintro e w2 ⟨rfl, hA2⟩
        go_wp2_with fail
        refine (encoded_calls _ (escF_rn hA1.sfx.all) _).mono ?_
        rintro e w3 ⟨rfl, hK⟩
        have hr := HR.out
        go_wp2_with fail
        go_roundg (escF l'.tail).2.1.length
        case measure => exact HL.out
        case rel =>
          refine ⟨(escF l'.tail).2.1, _, (o' || (escF l'.tail).2.2), rfl, rfl, ?_, ?_, ?_, hA2.keepA hK⟩
          · rw [str_app, ← H1.out, HE.out]
          · rw [← H2.out, HE.out]
          · rw [← H3.out, HE.out, Bool.or_assoc]
    · have HE := Lib.hid (nameF_cont hc)
      have hne : hd l' ≠ -1 := by intro e; rw [e] at hc; cases hc
      have hR := Lib.hid (hd_rn hA.sfx.all hne)
      have HL : Hid (l'.tail.length < gk) := by
        rw [← HK.out]
        cases l' with
        | nil => exact absurd rfl hne
        | cons c t => exact Lib.hid (by simp)
      have HR := Lib.hid (str_room H1.out (congrArg (·.1) HE.out) HT.out HN.out : x.size + (enc (hd l')).length ≤ 4398046511104)
      clear hne
      go_wp2_with (first | (go_at_call 35; (with_reducible refine (peek0 hA).mono ?_); rintro e w' ⟨rfl, rfl⟩) | (go_at_call 40; refine (Continues_calls _ _).mono ?_; rintro e w' ⟨rfl, rfl⟩))
      refine (take_sa hA).mono ?_
      rintro e w1 ⟨rfl, hA1⟩
      go_wp2_with fail
      refine (encoded_calls _ hR.out _).mono ?_
      rintro e w2 ⟨rfl, hK⟩
      have hr := HR.out
      go_wp2_with fail
      go_roundg l'.tail.length
      case measure => exact HL.out
      case rel =>
        refine ⟨l'.tail, _, o', rfl, rfl, ?_, ?_, ?_, hA1.keepA hK⟩
        · rw [str_app, ← H1.out, HE.out]
        · rw [← H2.out, HE.out]
        · rw [← H3.out, HE.out]
end Go.Proofs.YtedckphklebndaaGreatDoor
/- Words on the tokens that the reference's functions make, and badURL walked. Conditions: those of the lexer in memory (SA). -/
namespace Go.Proofs.YtedckphklebndaaGreatDoor
open Go Go.RowKit
/-- A token as a value, with where it begins and ends. -/
def tokV (t : Tok) (a b : Int) : Value := .agg #[.int .i64 t.kind, .int .i64 a, .int .i64 b, .int .i64 t.unit, .bool t.id, .string ⟨t.text.toArray⟩]
theorem SA.lt {w0 w : World} {g : Nat} {s : ByteArray} {l : List Int} {v : Value} {o : Bool} (h : SA w0 w g s l v o) : g < w.heap.size := lt_of_blk h.sl
/-- The same, seen from now on. -/
theorem SA.now {w0 w : World} {g : Nat} {s : ByteArray} {l : List Int} {v : Value} {o : Bool} (h : SA w0 w g s l v o) : SA w w g s l v o := ⟨h.sl, h.sfx, Keep.refl _ _, h.size⟩
theorem SA.alloc {w0 w : World} {g : Nat} {s : ByteArray} {l : List Int} {v : Value} {o : Bool} (h : SA w0 w g s l v o) (b : Obj) : SA w0 (w.alloc b) g s l v o := h.keepA ((Keep.refl _ _).alloc b)
theorem SA.from {w0 w1 w2 : World} {g : Nat} {s : ByteArray} {l l' : List Int} {v v' : Value} {o o' : Bool} (h : SA w0 w1 g s l v o) (k : SA w1 w2 g s l' v' o') : SA w0 w2 g s l' v' o' := ⟨k.sl, k.sfx, h.kp.trans k.kp, k.size⟩
theorem SA.far {w0 w : World} {g : Nat} {s : ByteArray} {l : List Int} {v : Value} {o : Bool} (h : SA w0 w g s l v o) {n : Nat} (hn : w0.heap.size ≤ n) (hg : n ≠ g) (j : Nat) (u : Value) : SA w0 (w.setCell ⟨n, j, none⟩ u) g s l v o :=
  ⟨by
    have := h.sl
    unfold SL at *
    rw [Below.heap_setCell w ⟨n, j, none⟩ u g (fun e => hg e.symm)]
    exact this, h.sfx, h.kp.setCell (fun x => by simp only at x; omega) _, h.size⟩
theorem SA.far6 {w0 w : World} {g : Nat} {s : ByteArray} {l : List Int} {v : Value} {o : Bool} (h : SA w0 w g s l v o) {n : Nat} (hn : w0.heap.size ≤ n) (hg : n ≠ g) (u0 u1 u2 u3 u4 u5 : Value) :
    SA w0 ((((((w.setCell ⟨n, 0, none⟩ u0).setCell ⟨n, 1, none⟩ u1).setCell ⟨n, 2, none⟩ u2).setCell ⟨n, 3, none⟩ u3).setCell ⟨n, 4, none⟩ u4).setCell ⟨n, 5, none⟩ u5) g s l v o :=
  (((((h.far hn hg 0 u0).far hn hg 1 u1).far hn hg 2 u2).far hn hg 3 u3).far hn hg 4 u4).far hn hg 5 u5
/-- The world with a new token for the result. -/
abbrev wT (w : World) : World := w.alloc (.cells #[.int .i64 0, .int .i64 0, .int .i64 0, .int .i64 0, .bool false, .string ⟨#[]⟩] 42)
theorem tok_blk {w w1 : World} {g : Nat} {s : ByteArray} {l : List Int} {v : Value} {o : Bool} (h : SA (wT w) w1 g s l v o) (hg : g < w.heap.size) :
    w1.cell? ⟨w.heap.size, 0, none⟩ = some (.int .i64 0) ∧ w1.cell? ⟨w.heap.size, 1, none⟩ = some (.int .i64 0) ∧ w1.cell? ⟨w.heap.size, 2, none⟩ = some (.int .i64 0) ∧ w1.cell? ⟨w.heap.size, 3, none⟩ = some (.int .i64 0) ∧ w1.cell? ⟨w.heap.size, 4, none⟩ = some (.bool false) ∧ w1.cell? ⟨w.heap.size, 5, none⟩ = some (.string ⟨#[]⟩) ∧ ∀ j, w1.frozen? ⟨w.heap.size, j, none⟩ = false := by
  have hz : w1.heap[w.heap.size]? = some (.cells #[.int .i64 0, .int .i64 0, .int .i64 0, .int .i64 0, .bool false, .string ⟨#[]⟩] 42 (0, 0)) := h.kp.blk (heap_alloc_new w _) (by omega)
  exact ⟨(blk_cell hz 0).trans rfl, (blk_cell hz 1).trans rfl, (blk_cell hz 2).trans rfl, (blk_cell hz 3).trans rfl, (blk_cell hz 4).trans rfl, (blk_cell hz 5).trans rfl, blk_frozen hz⟩

theorem badF_close {l : List Int} (h : hd l = 41) : badF l = (l.tail, false) := by
  cases l with
  | nil => simp at h
  | cons c t => simp only [hd_cons] at h; rw [badF]; simp [h]
theorem badF_esc {l : List Int} (h : hd l ≠ 41) (h2 : escs (hd l) (pk l 1) = true) : badF l = ((badF (escF l.tail).2.1).1, true) := by
  cases l with
  | nil => simp [escs] at h2
  | cons c t => simp only [hd_cons, pk_cons, pk_zero] at h h2; rw [badF]; simp [h, h2]
theorem badF_go {l : List Int} (h : hd l ≠ 41) (h0 : hd l ≠ -1) (h2 : escs (hd l) (pk l 1) = false) : badF l = badF l.tail := by
  cases l with
  | nil => simp at h0
  | cons c t => simp only [hd_cons, pk_cons, pk_zero] at h h2; rw [badF]; simp [h, h2]
def BD (w0 : World) (g : Nat) (s : ByteArray) (l : List Int) (v : Value) (o : Bool) (k : Nat) (w : World) : Prop :=
  ∃ l' o', l'.length = k ∧ (badF l').1 = (badF l).1 ∧ (o' || (badF l').2) = (o || (badF l).2) ∧ SA w0 w g s l' v o'
theorem pk_one (l : List Int) : pk l 1 = hd l.tail := by
  cases l with
  | nil => simp
  | cons c t => simp
theorem tail_lt {l : List Int} (h : hd l ≠ -1) : l.tail.length < l.length := by
  cases l with
  | nil => exact absurd rfl h
  | cons c t => simp
theorem hd_ne {l : List Int} (h : RnAll l) (h2 : l ≠ []) : hd l ≠ -1 := by
  cases l with
  | nil => exact absurd rfl h2
  | cons c t => have := h.head.1; simp only [hd_cons]; omega
set_option maxHeartbeats 2000000 in
theorem badURL_sa {w0 w : World} {g : Nat} {s : ByteArray} {l : List Int} {v : Value} {o : Bool} (h : SA w0 w g s l v o) :
    Calls Tryz.prog 91 #[.pointer (some ⟨g, 0, none⟩)] w fun e w' => e = .returned (tokV { kind := 3 } 0 0) ∧ SA w0 w' g s (badF l).1 v (o || (badF l).2) := by
  have hA0 : SA (wT w) (wT w) g s l v o := (h.alloc _).now
  have hlt := h.lt
  have hsz := h.kp.size
  have h9 := h.alloc (.cells #[.int .i64 0, .int .i64 0, .int .i64 0, .int .i64 0, .bool false, .string ⟨#[]⟩] 42)
  go_enter Tryz.func91, Tryz.ntmps91
  go_wp2_with fail
  go_loopg [] l.length (fun k wr => BD (wT w) g s l v o k wr)
  case atStart => exact ⟨l, o, rfl, rfl, rfl, hA0⟩
  case round =>
    obtain ⟨l', o', hk, h1, h2, hA⟩ := hrel
    have HK := Lib.hid hk
    have H1 := Lib.hid h1
    have H2 := Lib.hid h2
    clear hk h1 h2 hA0
    by_cases hc : hd l' = 41
    · have HE := Lib.hid (badF_close hc)
      have b1 : (hd l' == 41) = true := by simp [hc]
      clear hc
      go_wp2_with fail
      refine (take_sa hA).mono ?_
      rintro e w1 ⟨rfl, hA1⟩
      obtain ⟨d0, d1, d2, d3, d4, d5, f0⟩ := tok_blk hA1 hlt
      go_wp2
      refine bodyPost_ret (v := tokV { kind := 3 } 0 0) (by unfold tokV; simp [results, Tryz.results91, go_sem, d0, d1, d2, d3, d4, d5]) rfl ⟨rfl, ?_⟩
      refine SA.far6 ?_ (by omega) (by omega) _ _ _ _ _ _
      have a1 := H1.out
      have a2 := H2.out
      rw [HE.out] at a1 a2
      rw [← a1, ← a2]
      simpa using h9.from hA1
    · have b1 : (hd l' == 41) = false := by simp [hc]
      by_cases hn : l' = []
      · subst hn
        have HE : Hid (badF [] = ([], true)) := Lib.hid (by simp [badF])
        clear hc b1
        go_wp2_with fail
        refine (take_sa hA).mono ?_
        rintro e w1 ⟨rfl, hA1⟩
        obtain ⟨d0, d1, d2, d3, d4, d5, f0⟩ := tok_blk hA1 hlt
        have c3 := hA1.sl.c3
        have f3 := blk_frozen hA1.sl 3
        have hA2 : SA (wT w) (w1.setCell ⟨g, 3, none⟩ (.bool true)) g s [] v true := ⟨hA1.sl.set3 true, hA1.sfx, hA1.kp.setCell (fun _ => rfl) _, hA1.size⟩
        go_wp2
        refine bodyPost_ret (v := tokV { kind := 3 } 0 0) (by unfold tokV; simp [results, Tryz.results91, go_sem, d0, d1, d2, d3, d4, d5]) rfl ⟨rfl, ?_⟩
        refine SA.far6 ?_ (by omega) (by omega) _ _ _ _ _ _
        have a1 := H1.out
        have a2 := H2.out
        rw [HE.out] at a1 a2
        rw [← a1, ← a2]
        simpa using h9.from hA2
      · have hne := hd_ne hA.sfx.all hn
        have b2 : (hd l' == -1) = false := by simp [hne]
        have HL := Lib.hid (tail_lt hne)
        cases he : escs (hd l') (pk l' 1)
        · have HE := Lib.hid (badF_go hc hne he)
          rw [pk_one] at he
          clear hc hn hne
          go_wp2_with fail
          refine (take_sa hA).mono ?_
          rintro e w1 ⟨rfl, hA1⟩
          go_wp2_with (first | (go_at_call 35; (with_reducible refine (peek0 hA1).mono ?_); rintro e w' ⟨rfl, rfl⟩) | (go_at_call 41; refine (escapes_calls _ _ _).mono ?_; rintro e w' ⟨rfl, rfl⟩))
          go_roundg l'.tail.length
          case measure => rw [← HK.out]; exact HL.out
          case rel => exact ⟨l'.tail, o', rfl, by rw [← H1.out, HE.out], by rw [← H2.out, HE.out], hA1⟩
        · have HE := Lib.hid (badF_esc hc he)
          rw [pk_one] at he
          clear hc hn hne
          go_wp2_with fail
          refine (take_sa hA).mono ?_
          rintro e w1 ⟨rfl, hA1⟩
          have c3 := hA1.sl.c3
          have f3 := blk_frozen hA1.sl 3
          have hA2 : SA (wT w) (w1.setCell ⟨g, 3, none⟩ (.bool true)) g s l'.tail v true := ⟨hA1.sl.set3 true, hA1.sfx, hA1.kp.setCell (fun _ => rfl) _, hA1.size⟩
          go_wp2_with (first | (go_at_call 35; (with_reducible refine (peek0 hA1).mono ?_); rintro e w' ⟨rfl, rfl⟩) | (go_at_call 41; refine (escapes_calls _ _ _).mono ?_; rintro e w' ⟨rfl, rfl⟩))
          refine (escape_sa hA2).mono ?_
          rintro e w2 ⟨rfl, hA3⟩
          go_wp2_with fail
          go_roundg (escF l'.tail).2.1.length
          case measure => rw [← HK.out]; exact Nat.lt_of_le_of_lt (escF_le _) HL.out
          case rel => exact ⟨(escF l'.tail).2.1, _, rfl, by rw [← H1.out, HE.out], by rw [← H2.out, HE.out]; simp, hA3⟩
end Go.Proofs.YtedckphklebndaaGreatDoor
/- The reference's quoted, walked. Conditions: those of the lexer in memory (SA). -/
namespace Go.Proofs.YtedckphklebndaaGreatDoor
open Go Go.RowKit
theorem ret_tok {t t' : Tok} (h : t' = t) : Ending.returned (tokV t 0 0) = .returned (tokV t' 0 0) := by rw [h]
theorem ba_eta (x : ByteArray) : (⟨x.data.toList.toArray⟩ : ByteArray) = x := rfl
theorem quotF_end {q : Int} {out : List UInt8} {l : List Int} (h : l = []) : quotF q out l = ({ kind := 36, text := out }, [], true) := by subst h; rw [quotF]
theorem quotF_q {q : Int} {out : List UInt8} {l : List Int} (h0 : l ≠ []) (h : hd l = q) : quotF q out l = ({ kind := 36, text := out }, l.tail, false) := by
  cases l with
  | nil => exact absurd rfl h0
  | cons c t => simp only [hd_cons] at h; rw [quotF]; simp [h]
theorem quotF_nl {q : Int} {out : List UInt8} {l : List Int} (h0 : l ≠ []) (h : hd l ≠ q) (h1 : isNL (hd l) = true) : quotF q out l = ({ kind := 2 }, l, false) := by
  cases l with
  | nil => exact absurd rfl h0
  | cons c t => simp only [hd_cons] at h h1; rw [quotF]; simp [h, h1]
theorem quotF_bend {q : Int} {out : List UInt8} {l : List Int} (h : hd l ≠ q) (h2 : hd l = 92) (h3 : l.tail = []) : quotF q out l = quotF q out [] := by
  cases l with
  | nil => rfl
  | cons c t =>
    simp only [hd_cons, List.tail_cons] at h h2 h3
    subst h2 h3
    rw [quotF, quotF]
    simp [h, isNL]
theorem quotF_bnl {q : Int} {out : List UInt8} {l : List Int} (h : hd l ≠ q) (h2 : hd l = 92) (h3 : isNL (pk l 1) = true) : quotF q out l = quotF q out (nlTake l.tail) := by
  cases l with
  | nil => simp at h2
  | cons c t =>
    simp only [hd_cons, pk_cons, pk_zero] at h h2 h3
    subst h2
    rw [quotF]
    simp [h, h3, show isNL 92 = false from rfl]
theorem quotF_esc {q : Int} {out : List UInt8} {l : List Int} (h : hd l ≠ q) (h2 : hd l = 92) (h3 : isNL (pk l 1) = false) (h4 : l.tail ≠ []) :
    quotF q out l = ((quotF q (out ++ enc (escF l.tail).1) (escF l.tail).2.1).1, (quotF q (out ++ enc (escF l.tail).1) (escF l.tail).2.1).2.1, (escF l.tail).2.2 || (quotF q (out ++ enc (escF l.tail).1) (escF l.tail).2.1).2.2) := by
  cases l with
  | nil => simp at h2
  | cons c t =>
    simp only [hd_cons, pk_cons, pk_zero, List.tail_cons] at h h2 h3 h4
    subst h2
    rw [quotF]
    simp [h, h3, h4, show isNL 92 = false from rfl]
theorem quotF_go {q : Int} {out : List UInt8} {l : List Int} (h0 : l ≠ []) (h : hd l ≠ q) (h1 : isNL (hd l) = false) (h2 : hd l ≠ 92) : quotF q out l = quotF q (out ++ enc (hd l)) l.tail := by
  cases l with
  | nil => exact absurd rfl h0
  | cons c t => simp only [hd_cons] at h h1 h2; rw [quotF]; simp [h, h1, h2]
/-- quoted's loop. -/
def QT (w0 : World) (g : Nat) (s : ByteArray) (q : Int) (l : List Int) (v : Value) (o : Bool) (k : Nat) (a : Value) (w : World) : Prop :=
  ∃ l' x o', l'.length = k ∧ a = .string x ∧ (quotF q x.data.toList l').1 = (quotF q [] l).1 ∧ (quotF q x.data.toList l').2.1 = (quotF q [] l).2.1 ∧ (o' || (quotF q x.data.toList l').2.2) = (o || (quotF q [] l).2.2) ∧ x.size + 4 * l'.length ≤ 4 * l.length ∧ SA w0 w g s l' v o'
theorem str_app' (x : ByteArray) (e : List UInt8) : (x ++ (⟨e.toArray⟩ : ByteArray)).data.toList = x.data.toList ++ e := by simp [ByteArray.data_append]
theorem str_size' (x : ByteArray) (e : List UInt8) : (x ++ (⟨e.toArray⟩ : ByteArray)).size = x.size + e.length := by rw [Lib.size_eq, str_app', List.length_append, ← Lib.size_eq]
set_option maxHeartbeats 4000000 in
theorem quoted_sa {w0 w : World} {g : Nat} {s : ByteArray} {q : Int} {l : List Int} {v : Value} {o : Bool} (h : SA w0 w g s (q :: l) v o) (hq : q = 34 ∨ q = 39) :
    Calls Tryz.prog 39 #[.pointer (some ⟨g, 0, none⟩)] w fun e w' => e = .returned (tokV (quotF q [] l).1 0 0) ∧ SA w0 w' g s (quotF q [] l).2.1 v (o || (quotF q [] l).2.2) := by
  have hA0 : SA (wT w) (wT w) g s (q :: l) v o := (h.alloc _).now
  have hlt := h.lt
  have hsz := h.kp.size
  have HN := Lib.hid h.len
  have h9 := h.alloc (.cells #[.int .i64 0, .int .i64 0, .int .i64 0, .int .i64 0, .bool false, .string ⟨#[]⟩] 42)
  have hqe : q ≠ -1 := by omega
  have HQE := Lib.hid hqe
  have HQQ := Lib.hid hq
  clear hq hqe
  go_enter Tryz.func39, Tryz.ntmps39
  go_wp2_with fail
  refine (take_sa hA0).mono ?_
  rintro e w1 ⟨rfl, hA1⟩
  simp only [hd_cons, List.tail_cons] at hA1 ⊢
  go_wp2_with fail
  go_loopg [4] l.length (fun k a wr => QT (wT w) g s q l v o k a wr)
  case atStart => exact ⟨l, ⟨#[]⟩, o, rfl, rfl, rfl, rfl, rfl, by show 0 + _ ≤ _; omega, hA1⟩
  case round =>
    obtain ⟨l', x, o', hk, rfl, h1, h2, h3, h4, hA⟩ := hrel
    have HK := Lib.hid hk
    have H1 := Lib.hid h1
    have H2 := Lib.hid h2
    have H3 := Lib.hid h3
    have H4 := Lib.hid h4
    clear hk h1 h2 h3 h4 hA0 hA1
    by_cases hn : l' = []
    · subst hn
      have HE := Lib.hid (quotF_end (q := q) (out := x.data.toList) (l := []) rfl)
      have b1 : (-1 == q) = false := by have := HQE.out; simp; omega
      have c3 := hA.sl.c3
      have f3 := blk_frozen hA.sl 3
      obtain ⟨d0, d1, d2, d3, d4, d5, f0⟩ := tok_blk hA hlt
      have hA2 : SA (wT w) (wr.setCell ⟨g, 3, none⟩ (.bool true)) g s [] v true := ⟨hA.sl.set3 true, hA.sfx, hA.kp.setCell (fun _ => rfl) _, hA.size⟩
      go_wp2_with (first | (go_at_call 35; (with_reducible refine (peek0 hA).mono ?_); rintro e w' ⟨rfl, rfl⟩) | (go_at_call 35; (with_reducible refine (peek1 hA).mono ?_); rintro e w' ⟨rfl, rfl⟩) | (go_at_call 63; refine (isNewline_calls _ _).mono ?_; rintro e w' ⟨rfl, rfl⟩))
      refine bodyPost_ret (v := tokV { kind := 36, text := x.data.toList } 0 0) (by unfold tokV; simp [results, Tryz.results39, go_sem, d0, d1, d2, d3, d4, d5]) rfl ⟨?_, ?_⟩
      · exact ret_tok (by rw [← H1.out, HE.out])
      · refine SA.far6 ?_ (by omega) (by omega) _ _ _ _ _ _
        have a2 := H2.out
        have a3 := H3.out
        rw [HE.out] at a2 a3
        rw [← a2, ← a3]
        simpa using h9.from hA2
    · have hne := hd_ne hA.sfx.all hn
      have HL := Lib.hid (tail_lt hne)
      have b2 : (hd l' == -1) = false := by simp [hne]
      have HRN := Lib.hid (hd_rn hA.sfx.all hne)
      have HN' := Lib.hid hn
      clear hn
      by_cases hc : hd l' = q
      · have HE := Lib.hid (quotF_q (out := x.data.toList) HN'.out hc)
        have b1 : (hd l' == q) = true := by simp [hc]
        clear hc hne
        go_wp2_with (first | (go_at_call 35; (with_reducible refine (peek0 hA).mono ?_); rintro e w' ⟨rfl, rfl⟩) | (go_at_call 35; (with_reducible refine (peek1 hA).mono ?_); rintro e w' ⟨rfl, rfl⟩) | (go_at_call 63; refine (isNewline_calls _ _).mono ?_; rintro e w' ⟨rfl, rfl⟩))
        refine (take_sa hA).mono ?_
        rintro e w2 ⟨rfl, hA2⟩
        obtain ⟨d0, d1, d2, d3, d4, d5, f0⟩ := tok_blk hA2 hlt
        go_wp2
        refine bodyPost_ret (v := tokV { kind := 36, text := x.data.toList } 0 0) (by unfold tokV; simp [results, Tryz.results39, go_sem, d0, d1, d2, d3, d4, d5]) rfl ⟨?_, ?_⟩
        · exact ret_tok (by rw [← H1.out, HE.out])
        · refine SA.far6 ?_ (by omega) (by omega) _ _ _ _ _ _
          have a2 := H2.out
          have a3 := H3.out
          rw [HE.out] at a2 a3
          rw [← a2, ← a3]
          simpa using h9.from hA2
      · have b1 : (hd l' == q) = false := by simp [hc]
        cases hnl : isNL (hd l')
        · by_cases hb : hd l' = 92
          · have b3 : (hd l' == 92) = true := by simp [hb]
            by_cases ht : l'.tail = []
            · have HE := Lib.hid (quotF_bend (q := q) (out := x.data.toList) hc hb ht)
              have b4 : (pk l' 1 == -1) = true := by rw [pk_one, ht]; rfl
              have HT := Lib.hid ht
              clear hb hc hne ht
              go_wp2_with (first | (go_at_call 35; (with_reducible refine (peek0 hA).mono ?_); rintro e w' ⟨rfl, rfl⟩) | (go_at_call 35; (with_reducible refine (peek1 hA).mono ?_); rintro e w' ⟨rfl, rfl⟩) | (go_at_call 63; refine (isNewline_calls _ _).mono ?_; rintro e w' ⟨rfl, rfl⟩))
              refine (take_sa hA).mono ?_
              rintro e w2 ⟨rfl, hA2⟩
              go_wp2_with fail
              go_roundg l'.tail.length
              case measure => rw [← HK.out]; exact HL.out
              case rel =>
                have e4 := HL.out
                have e5 := H4.out
                refine ⟨l'.tail, x, o', rfl, rfl, ?_, ?_, ?_, by omega, hA2⟩
                · rw [HT.out, ← HE.out]; exact H1.out
                · rw [HT.out, ← HE.out]; exact H2.out
                · rw [HT.out, ← HE.out]; exact H3.out
            · have b4 : (pk l' 1 == -1) = false := by
                have := hA.sfx.tl.all
                rw [pk_one]; simpa using hd_ne this ht
              have hne2 := Lib.hid ht
              cases hm : isNL (pk l' 1)
              · have HE := Lib.hid (quotF_esc (q := q) (out := x.data.toList) hc hb hm ht)
                clear hb hc hne ht
                have HR : Hid (x.size + (enc (escF l'.tail).1).length ≤ 4398046511104) := by
                  have e1 := enc_len (escF l'.tail).1
                  have e2 := H4.out
                  have e3 := HN.out
                  have e4 := HL.out
                  simp only [List.length_cons] at e3
                  exact Lib.hid (by omega)
                go_wp2_with (first | (go_at_call 35; (with_reducible refine (peek0 hA).mono ?_); rintro e w' ⟨rfl, rfl⟩) | (go_at_call 35; (with_reducible refine (peek1 hA).mono ?_); rintro e w' ⟨rfl, rfl⟩) | (go_at_call 63; refine (isNewline_calls _ _).mono ?_; rintro e w' ⟨rfl, rfl⟩))
                refine (take_sa hA).mono ?_
                rintro e w2 ⟨rfl, hA2⟩
                go_wp2_with fail
                refine (escape_sa hA2).mono ?_
                rintro e w3 ⟨rfl, hA3⟩
                go_wp2_with fail
                refine (encoded_calls _ (escF_rn hA2.sfx.all) _).mono ?_
                rintro e w4 ⟨rfl, hK⟩
                have hr := HR.out
                go_wp2_with fail
                go_roundg (escF l'.tail).2.1.length
                case measure => rw [← HK.out]; exact Nat.lt_of_le_of_lt (escF_le _) HL.out
                case rel =>
                  refine ⟨(escF l'.tail).2.1, _, (o' || (escF l'.tail).2.2), rfl, rfl, ?_, ?_, ?_, ?_, hA3.keepA hK⟩
                  · rw [str_app', ← H1.out, HE.out]
                  · rw [str_app', ← H2.out, HE.out]
                  · rw [str_app', ← H3.out, HE.out, Bool.or_assoc]
                  · have e1 := enc_len (escF l'.tail).1; have e2 := H4.out; have e4 := HL.out; have e5 := escF_le l'.tail
                    rw [str_size']; omega
              · have HE := Lib.hid (quotF_bnl (q := q) (out := x.data.toList) hc hb hm)
                clear hb hc hne ht
                go_wp2_with (first | (go_at_call 35; (with_reducible refine (peek0 hA).mono ?_); rintro e w' ⟨rfl, rfl⟩) | (go_at_call 35; (with_reducible refine (peek1 hA).mono ?_); rintro e w' ⟨rfl, rfl⟩) | (go_at_call 63; refine (isNewline_calls _ _).mono ?_; rintro e w' ⟨rfl, rfl⟩))
                refine (take_sa hA).mono ?_
                rintro e w2 ⟨rfl, hA2⟩
                go_wp2_with fail
                refine (newline_sa hA2).mono ?_
                rintro e w3 ⟨rfl, hA3⟩
                go_wp2_with fail
                go_roundg (nlTake l'.tail).length
                case measure => rw [← HK.out]; exact Nat.lt_of_le_of_lt (nlTake_le _) HL.out
                case rel =>
                  have e4 := HL.out
                  have e5 := H4.out
                  have e6 := nlTake_le l'.tail
                  refine ⟨nlTake l'.tail, x, o', rfl, rfl, ?_, ?_, ?_, by omega, hA3⟩
                  · rw [← HE.out]; exact H1.out
                  · rw [← HE.out]; exact H2.out
                  · rw [← HE.out]; exact H3.out
          · have HE := Lib.hid (quotF_go (out := x.data.toList) HN'.out hc hnl hb)
            have b3 : (hd l' == 92) = false := by simp [hb]
            clear hb hc hne
            have HR : Hid (x.size + (enc (hd l')).length ≤ 4398046511104) := by
              have e1 := enc_len (hd l')
              have e2 := H4.out
              have e3 := HN.out
              have e4 := HL.out
              simp only [List.length_cons] at e3
              exact Lib.hid (by omega)
            go_wp2_with (first | (go_at_call 35; (with_reducible refine (peek0 hA).mono ?_); rintro e w' ⟨rfl, rfl⟩) | (go_at_call 35; (with_reducible refine (peek1 hA).mono ?_); rintro e w' ⟨rfl, rfl⟩) | (go_at_call 63; refine (isNewline_calls _ _).mono ?_; rintro e w' ⟨rfl, rfl⟩))
            refine (take_sa hA).mono ?_
            rintro e w2 ⟨rfl, hA2⟩
            go_wp2_with fail
            refine (encoded_calls _ HRN.out _).mono ?_
            rintro e w3 ⟨rfl, hK⟩
            have hr := HR.out
            go_wp2_with fail
            go_roundg l'.tail.length
            case measure => rw [← HK.out]; exact HL.out
            case rel =>
              refine ⟨l'.tail, _, o', rfl, rfl, ?_, ?_, ?_, ?_, hA2.keepA hK⟩
              · rw [str_app', ← HE.out]; exact H1.out
              · rw [str_app', ← HE.out]; exact H2.out
              · rw [str_app', ← HE.out]; exact H3.out
              · have e1 := enc_len (hd l'); have e2 := H4.out; have e4 := HL.out
                rw [str_size']; omega
        · have HE := Lib.hid (quotF_nl (out := x.data.toList) HN'.out hc hnl)
          clear hc hne
          obtain ⟨d0, d1, d2, d3, d4, d5, f0⟩ := tok_blk hA hlt
          go_wp2_with (first | (go_at_call 35; (with_reducible refine (peek0 hA).mono ?_); rintro e w' ⟨rfl, rfl⟩) | (go_at_call 35; (with_reducible refine (peek1 hA).mono ?_); rintro e w' ⟨rfl, rfl⟩) | (go_at_call 63; refine (isNewline_calls _ _).mono ?_; rintro e w' ⟨rfl, rfl⟩))
          refine bodyPost_ret (v := tokV { kind := 2 } 0 0) (by unfold tokV; simp [results, Tryz.results39, go_sem, d0, d1, d2, d3, d4, d5]) rfl ⟨?_, ?_⟩
          · exact ret_tok (by rw [← H1.out, HE.out])
          · refine SA.far6 ?_ (by omega) (by omega) _ _ _ _ _ _
            have a2 := H2.out
            have a3 := H3.out
            rw [HE.out] at a2 a3
            rw [← a2, ← a3]
            simpa using h9.from hA
end Go.Proofs.YtedckphklebndaaGreatDoor
