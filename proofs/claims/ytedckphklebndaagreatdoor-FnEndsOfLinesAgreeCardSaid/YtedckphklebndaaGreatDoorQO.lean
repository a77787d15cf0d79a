/- The reference's numeric, walked. Conditions: those of the lexer in memory (SA). -/
import Derived.Test.YtedckphklebndaaGreatDoorQGL
import Derived.Deep.DeepCutAuto
namespace Go.Proofs.YtedckphklebndaaGreatDoor
open Go Go.RowKit
theorem tri2 : ∀ p q : Bool, p = true ∨ (p = false ∧ q = true) ∨ (p = false ∧ q = false) := by decide
/-- A Boolean in a slot, the world as it was. -/
def BW (b : Bool) (w : World) (v : Value) (w' : World) : Prop := v = .bool b ∧ w = w'
theorem drop2 (l : List Int) : l.drop 2 = l.tail.tail := by
  cases l with
  | nil => rfl
  | cons a t => cases t <;> rfl
set_option maxRecDepth 100000 in
set_option maxHeartbeats 4000000 in
theorem numeric_sa {w0 w : World} {g : Nat} {s : ByteArray} {l : List Int} {v : Value} {o : Bool} (h : SA w0 w g s l v o) :
    Calls Tryz.prog 45 #[.pointer (some ⟨g, 0, none⟩)] w fun e w' => e = .returned (tokV (numF l).1 0 0) ∧ SA w0 w' g s (numF l).2.1 v (o || (numF l).2.2) := by
  have hA0 : SA (wT w) (wT w) g s l v o := (h.alloc _).now
  have hlt := h.lt
  have hsz := h.kp.size
  have h9 := h.alloc (.cells #[.int .i64 0, .int .i64 0, .int .i64 0, .int .i64 0, .bool false, .string ⟨#[]⟩] 42)
  have c1 := hA0.sl.c1
  have b1 := ps_le s l
  have b2 := hA0.size
  go_enter Tryz.func45, Tryz.ntmps45
  go_upto_region 3 with (first | (go_at_call 35; (with_reducible refine (peek0 hA0).mono ?_); rintro e w' ⟨rfl, rfl⟩) | (go_at_call 35; (with_reducible refine (peek1 hA0).mono ?_); rintro e w' ⟨rfl, rfl⟩) | (go_at_call 35; (with_reducible refine (peek2 hA0).mono ?_); rintro e w' ⟨rfl, rfl⟩))
  go_cut [19] (fun b wc => BW (hd l == 43 || hd l == 45) (wT w) b wc)
  case first =>
    rcases tri2 (hd l == 43) (hd l == 45) with q | ⟨q, q2⟩ | ⟨q, q2⟩
    · go_wp2
      go_meet
      case rel => exact ⟨by simp [q], rfl⟩
    · go_wp2
      go_meet
      case rel => exact ⟨by simp [q, q2], rfl⟩
    · go_wp2
      go_meet
      case rel => exact ⟨by simp [q, q2], rfl⟩
  case rest =>
    obtain ⟨rfl, rfl⟩ := hcut
    clear c1
    go_upto_if 19 with (fail)
    go_cut [] (fun wc => SA (wT w) wc g s (num1 l) v o)
    case first =>
      cases q : (hd l == 43 || hd l == 45)
      · have HE : Hid (num1 l = l) := Lib.hid (by unfold num1; rw [if_neg (by simpa using q)])
        go_wp2_with fail
        go_meet
        case rel => rw [HE.out]; exact hA0
      · have HE : Hid (num1 l = l.tail) := Lib.hid (by unfold num1; rw [if_pos (by simpa using q)])
        go_wp2_with fail
        refine (take_sa hA0).mono ?_
        rintro e w1 ⟨rfl, hA1⟩
        go_wp2_with fail
        go_meet
        case rel => rw [HE.out]; exact hA1
    case rest =>
      have hA1 := hcut
      clear hcut hA0
      go_wp2_with fail
      refine (digits_sa hA1).mono ?_
      rintro e w2 ⟨rfl, hA2⟩
      replace hA2 : SA (wT w) w2 g s (num2 l) v o := hA2
      clear hA1
      obtain ⟨dd, hdd⟩ : ∃ x, (hd (num2 l) == 46 && isDg (pk (num2 l) 1)) = x := ⟨_, rfl⟩
      have HDD := Lib.hid hdd
      clear hdd
      go_upto_region 6 with (fail)
      go_cut [31] (fun b wc => BW dd w2 b wc)
      case first =>
        cases q : (hd (num2 l) == 46)
        · go_wp2_with (first | (go_at_call 35; (with_reducible refine (peek0 hA2).mono ?_); rintro e w' ⟨rfl, rfl⟩) | (go_at_call 35; (with_reducible refine (peek1 hA2).mono ?_); rintro e w' ⟨rfl, rfl⟩) | (go_at_call 35; (with_reducible refine (peek2 hA2).mono ?_); rintro e w' ⟨rfl, rfl⟩))
          go_meet
          case rel => exact ⟨by rw [← HDD.out, q]; rfl, rfl⟩
        · go_wp2_with (first | (go_at_call 35; (with_reducible refine (peek0 hA2).mono ?_); rintro e w' ⟨rfl, rfl⟩) | (go_at_call 35; (with_reducible refine (peek1 hA2).mono ?_); rintro e w' ⟨rfl, rfl⟩) | (go_at_call 35; (with_reducible refine (peek2 hA2).mono ?_); rintro e w' ⟨rfl, rfl⟩) | (go_at_call 68; refine (isDigit_calls _ _).mono ?_; rintro e w' ⟨rfl, rfl⟩))
          go_meet
          case rel => exact ⟨by rw [← HDD.out, q]; simp, rfl⟩
      case rest =>
        obtain ⟨rfl, rfl⟩ := hcut
        go_upto_if 31 with (fail)
        go_cut [] (fun wc => SA (wT w) wc g s (num3 l) v (o || numO l))
        case first =>
          have e1 : (o || numO l) = (o || (hd (num2 l) == 46 && !isDg (pk (num2 l) 1))) := rfl
          have E1 := Lib.hid e1
          clear e1
          cases dd
          · have HE : Hid (num3 l = num2 l) := by
              have e := HDD.out
              refine Lib.hid ?_
              unfold num3
              rw [if_neg]
              intro ⟨a, b⟩
              rw [a, b] at e
              cases e
            cases q : (hd (num2 l) == 46)
            · go_wp2_with (first | (go_at_call 35; (with_reducible refine (peek0 hA2).mono ?_); rintro e w' ⟨rfl, rfl⟩) | (go_at_call 35; (with_reducible refine (peek1 hA2).mono ?_); rintro e w' ⟨rfl, rfl⟩) | (go_at_call 35; (with_reducible refine (peek2 hA2).mono ?_); rintro e w' ⟨rfl, rfl⟩))
              go_meet
              case rel => rw [HE.out, E1.out, q]; simpa using hA2
            · have q2 : isDg (pk (num2 l) 1) = false := by have e := HDD.out; rw [q] at e; simpa using e
              have c3 := hA2.sl.c3
              have f3 := blk_frozen hA2.sl 3
              go_wp2_with (first | (go_at_call 35; (with_reducible refine (peek0 hA2).mono ?_); rintro e w' ⟨rfl, rfl⟩) | (go_at_call 35; (with_reducible refine (peek1 hA2).mono ?_); rintro e w' ⟨rfl, rfl⟩) | (go_at_call 35; (with_reducible refine (peek2 hA2).mono ?_); rintro e w' ⟨rfl, rfl⟩))
              go_meet
              case rel =>
                rw [HE.out, E1.out, q, q2]
                have : SA (wT w) (w2.setCell ⟨g, 3, none⟩ (.bool true)) g s (num2 l) v true := ⟨hA2.sl.set3 true, hA2.sfx, hA2.kp.setCell (fun _ => rfl) _, hA2.size⟩
                simpa using this
          · have e := HDD.out
            rw [Bool.and_eq_true] at e
            have HE : Hid (num3 l = digitF (num2 l).tail) := Lib.hid (by unfold num3; rw [if_pos ⟨by simpa using e.1, e.2⟩])
            have HZ := Lib.hid e
            clear e
            go_wp2_with fail
            refine (take_sa hA2).mono ?_
            rintro e w3 ⟨rfl, hA3⟩
            go_wp2_with fail
            refine (digits_sa hA3).mono ?_
            rintro e w4 ⟨rfl, hA4⟩
            go_wp2_with fail
            go_meet
            case rel => rw [HE.out, E1.out, HZ.out.1, HZ.out.2]; simpa using hA4
        case rest =>
          have hA3 := hcut
          clear hcut hA2
          obtain ⟨o3, ho3⟩ : ∃ x, (o || numO l) = x := ⟨_, rfl⟩
          rw [ho3] at hA3
          have HO3 := Lib.hid ho3
          clear ho3
          go_upto_region 12 with (first | (go_at_call 35; (with_reducible refine (peek0 hA3).mono ?_); rintro e w' ⟨rfl, rfl⟩) | (go_at_call 35; (with_reducible refine (peek1 hA3).mono ?_); rintro e w' ⟨rfl, rfl⟩) | (go_at_call 35; (with_reducible refine (peek2 hA3).mono ?_); rintro e w' ⟨rfl, rfl⟩))
          go_cut [49] (fun b wc2 => BW (hd (num3 l) == 101 || hd (num3 l) == 69) wc b wc2)
          case first =>
            rcases tri2 (hd (num3 l) == 101) (hd (num3 l) == 69) with q | ⟨q, q2⟩ | ⟨q, q2⟩
            · go_wp2
              go_meet
              case rel => exact ⟨by simp [q], rfl⟩
            · go_wp2
              go_meet
              case rel => exact ⟨by simp [q, q2], rfl⟩
            · go_wp2
              go_meet
              case rel => exact ⟨by simp [q, q2], rfl⟩
          case rest =>
            obtain ⟨rfl, rfl⟩ := hcut
            go_upto_if 49 with (fail)
            go_cut [5, 6] (fun _ _ wc2 => SA (wT w) wc2 g s (num4 l) v o3)
            case first =>
              cases q : (hd (num3 l) == 101 || hd (num3 l) == 69)
              · have HE : Hid (num4 l = num3 l) := Lib.hid (by unfold num4 expo; rw [q]; rfl)
                go_wp2_with fail
                go_meet
                case rel => rw [HE.out]; exact hA3
              · have HX : Hid (expo (num3 l) = (isDg (pk (num3 l) 1) || (pk (num3 l) 1 == 43 || pk (num3 l) 1 == 45) && isDg (pk (num3 l) 2))) := Lib.hid (by unfold expo; rw [q]; rfl)
                have hcs : isDg (pk (num3 l) 1) = true ∨ (isDg (pk (num3 l) 1) = false ∧ (pk (num3 l) 1 == 43) = true ∧ isDg (pk (num3 l) 2) = true) ∨ (isDg (pk (num3 l) 1) = false ∧ (pk (num3 l) 1 == 43) = false ∧ (pk (num3 l) 1 == 45) = true ∧ isDg (pk (num3 l) 2) = true) ∨ (isDg (pk (num3 l) 1) = false ∧ (pk (num3 l) 1 == 43) = true ∧ isDg (pk (num3 l) 2) = false) ∨ (isDg (pk (num3 l) 1) = false ∧ (pk (num3 l) 1 == 43) = false ∧ (pk (num3 l) 1 == 45) = true ∧ isDg (pk (num3 l) 2) = false) ∨ (isDg (pk (num3 l) 1) = false ∧ (pk (num3 l) 1 == 43) = false ∧ (pk (num3 l) 1 == 45) = false) := by
                  cases isDg (pk (num3 l) 1) <;> cases (pk (num3 l) 1 == 43) <;> cases (pk (num3 l) 1 == 45) <;> cases isDg (pk (num3 l) 2) <;> simp
                have yes : expo (num3 l) = true → num4 l = digitF (num3 l).tail.tail := fun e => by unfold num4; rw [e, if_pos rfl, drop2]
                have no : expo (num3 l) = false → num4 l = num3 l := fun e => by unfold num4; rw [e]; rfl
                rcases hcs with p1 | ⟨p1, p2, p3⟩ | ⟨p1, p2, p3, p4⟩ | ⟨p1, p2, p3⟩ | ⟨p1, p2, p3, p4⟩ | ⟨p1, p2, p3⟩
                · have HE := Lib.hid (yes (by rw [HX.out]; simp [p1]))
                  clear yes no
                  go_wp2_with (first | (go_at_call 35; (with_reducible refine (peek0 hA3).mono ?_); rintro e w' ⟨rfl, rfl⟩) | (go_at_call 35; (with_reducible refine (peek1 hA3).mono ?_); rintro e w' ⟨rfl, rfl⟩) | (go_at_call 35; (with_reducible refine (peek2 hA3).mono ?_); rintro e w' ⟨rfl, rfl⟩) | (go_at_call 68; refine (isDigit_calls _ _).mono ?_; rintro e w' ⟨rfl, rfl⟩))
                  refine (take_sa hA3).mono ?_
                  rintro e w5 ⟨rfl, hA5⟩
                  go_wp2_with fail
                  refine (take_sa hA5).mono ?_
                  rintro e w6 ⟨rfl, hA6⟩
                  go_wp2_with fail
                  refine (digits_sa hA6).mono ?_
                  rintro e w7 ⟨rfl, hA7⟩
                  go_wp2_with fail
                  go_meet
                  case rel => rw [HE.out]; exact hA7
                · have HE := Lib.hid (yes (by rw [HX.out]; simp [p1, p2, p3]))
                  clear yes no
                  go_wp2_with (first | (go_at_call 35; (with_reducible refine (peek0 hA3).mono ?_); rintro e w' ⟨rfl, rfl⟩) | (go_at_call 35; (with_reducible refine (peek1 hA3).mono ?_); rintro e w' ⟨rfl, rfl⟩) | (go_at_call 35; (with_reducible refine (peek2 hA3).mono ?_); rintro e w' ⟨rfl, rfl⟩) | (go_at_call 68; refine (isDigit_calls _ _).mono ?_; rintro e w' ⟨rfl, rfl⟩))
                  refine (take_sa hA3).mono ?_
                  rintro e w5 ⟨rfl, hA5⟩
                  go_wp2_with fail
                  refine (take_sa hA5).mono ?_
                  rintro e w6 ⟨rfl, hA6⟩
                  go_wp2_with fail
                  refine (digits_sa hA6).mono ?_
                  rintro e w7 ⟨rfl, hA7⟩
                  go_wp2_with fail
                  go_meet
                  case rel => rw [HE.out]; exact hA7
                · have HE := Lib.hid (yes (by rw [HX.out]; simp [p1, p2, p3, p4]))
                  clear yes no
                  go_wp2_with (first | (go_at_call 35; (with_reducible refine (peek0 hA3).mono ?_); rintro e w' ⟨rfl, rfl⟩) | (go_at_call 35; (with_reducible refine (peek1 hA3).mono ?_); rintro e w' ⟨rfl, rfl⟩) | (go_at_call 35; (with_reducible refine (peek2 hA3).mono ?_); rintro e w' ⟨rfl, rfl⟩) | (go_at_call 68; refine (isDigit_calls _ _).mono ?_; rintro e w' ⟨rfl, rfl⟩))
                  refine (take_sa hA3).mono ?_
                  rintro e w5 ⟨rfl, hA5⟩
                  go_wp2_with fail
                  refine (take_sa hA5).mono ?_
                  rintro e w6 ⟨rfl, hA6⟩
                  go_wp2_with fail
                  refine (digits_sa hA6).mono ?_
                  rintro e w7 ⟨rfl, hA7⟩
                  go_wp2_with fail
                  go_meet
                  case rel => rw [HE.out]; exact hA7
                · have HE := Lib.hid (no (by rw [HX.out]; simp [p1, p2, p3]))
                  clear yes no
                  go_wp2_with (first | (go_at_call 35; (with_reducible refine (peek0 hA3).mono ?_); rintro e w' ⟨rfl, rfl⟩) | (go_at_call 35; (with_reducible refine (peek1 hA3).mono ?_); rintro e w' ⟨rfl, rfl⟩) | (go_at_call 35; (with_reducible refine (peek2 hA3).mono ?_); rintro e w' ⟨rfl, rfl⟩) | (go_at_call 68; refine (isDigit_calls _ _).mono ?_; rintro e w' ⟨rfl, rfl⟩))
                  go_meet
                  case rel => rw [HE.out]; exact hA3
                · have HE := Lib.hid (no (by rw [HX.out]; simp [p1, p2, p3, p4]))
                  clear yes no
                  go_wp2_with (first | (go_at_call 35; (with_reducible refine (peek0 hA3).mono ?_); rintro e w' ⟨rfl, rfl⟩) | (go_at_call 35; (with_reducible refine (peek1 hA3).mono ?_); rintro e w' ⟨rfl, rfl⟩) | (go_at_call 35; (with_reducible refine (peek2 hA3).mono ?_); rintro e w' ⟨rfl, rfl⟩) | (go_at_call 68; refine (isDigit_calls _ _).mono ?_; rintro e w' ⟨rfl, rfl⟩))
                  go_meet
                  case rel => rw [HE.out]; exact hA3
                · have HE := Lib.hid (no (by rw [HX.out]; simp [p1, p2, p3]))
                  clear yes no
                  go_wp2_with (first | (go_at_call 35; (with_reducible refine (peek0 hA3).mono ?_); rintro e w' ⟨rfl, rfl⟩) | (go_at_call 35; (with_reducible refine (peek1 hA3).mono ?_); rintro e w' ⟨rfl, rfl⟩) | (go_at_call 35; (with_reducible refine (peek2 hA3).mono ?_); rintro e w' ⟨rfl, rfl⟩) | (go_at_call 68; refine (isDigit_calls _ _).mono ?_; rintro e w' ⟨rfl, rfl⟩))
                  go_meet
                  case rel => rw [HE.out]; exact hA3
            case rest =>
              have hA4 := hcut
              clear hcut hA3
              have c1 := hA4.sl.c1
              have b3 := ps_le s (num4 l)
              have HG := Lib.hid (ps_gap h.sfx hA4.sfx)
              cases hi : idnt (pk (num4 l) 0) (pk (num4 l) 1) (pk (num4 l) 2)
              · rw [pk_zero] at hi
                by_cases hp : hd (num4 l) = 37
                · have HE : Hid (numF l = ({ kind := 34 }, (num4 l).tail, numO l)) := Lib.hid (by unfold numF; rw [pk_zero, hi, if_neg (by decide), if_pos hp])
                  have q : (hd (num4 l) == 37) = true := by simp [hp]
                  clear hp
                  go_wp2_with (first | (go_at_call 35; (with_reducible refine (peek0 hA4).mono ?_); rintro e w' ⟨rfl, rfl⟩) | (go_at_call 35; (with_reducible refine (peek1 hA4).mono ?_); rintro e w' ⟨rfl, rfl⟩) | (go_at_call 35; (with_reducible refine (peek2 hA4).mono ?_); rintro e w' ⟨rfl, rfl⟩) | (go_at_call 42; refine (identifies_calls _ _ _ _).mono ?_; rintro e w' ⟨rfl, rfl⟩))
                  refine (take_sa hA4).mono ?_
                  rintro e w5 ⟨rfl, hA5⟩
                  obtain ⟨d0, d1, d2, d3, d4, d5, f0⟩ := tok_blk hA5 hlt
                  go_wp2
                  refine bodyPost_ret (v := tokV { kind := 34 } 0 0) (by unfold tokV; simp [results, Tryz.results45, go_sem, d0, d1, d2, d3, d4, d5]) rfl ⟨?_, ?_⟩
                  · exact ret_tok (by rw [HE.out])
                  · refine SA.far6 ?_ (by omega) (by omega) _ _ _ _ _ _
                    rw [HE.out, HO3.out]
                    exact h9.from hA5
                · have HE : Hid (numF l = ({ kind := 30 }, num4 l, numO l)) := Lib.hid (by unfold numF; rw [pk_zero, hi, if_neg (by decide), if_neg hp])
                  have q : (hd (num4 l) == 37) = false := by simp [hp]
                  clear hp
                  obtain ⟨d0, d1, d2, d3, d4, d5, f0⟩ := tok_blk hA4 hlt
                  go_wp2_with (first | (go_at_call 35; (with_reducible refine (peek0 hA4).mono ?_); rintro e w' ⟨rfl, rfl⟩) | (go_at_call 35; (with_reducible refine (peek1 hA4).mono ?_); rintro e w' ⟨rfl, rfl⟩) | (go_at_call 35; (with_reducible refine (peek2 hA4).mono ?_); rintro e w' ⟨rfl, rfl⟩) | (go_at_call 42; refine (identifies_calls _ _ _ _).mono ?_; rintro e w' ⟨rfl, rfl⟩))
                  refine bodyPost_ret (v := tokV { kind := 30 } 0 0) (by unfold tokV; simp [results, Tryz.results45, go_sem, d0, d1, d2, d3, d4, d5]) rfl ⟨?_, ?_⟩
                  · exact ret_tok (by rw [HE.out])
                  · refine SA.far6 ?_ (by omega) (by omega) _ _ _ _ _ _
                    rw [HE.out, HO3.out]
                    exact h9.from hA4
              · rw [pk_zero] at hi
                have HE : Hid (numF l = ({ kind := 26, unit := ((encs l).length : Int) - (encs (num4 l)).length }, (nameF (num4 l)).2.1, numO l || (nameF (num4 l)).2.2)) := Lib.hid (by unfold numF; rw [pk_zero, hi, if_pos rfl])
                go_wp2_with (first | (go_at_call 35; (with_reducible refine (peek0 hA4).mono ?_); rintro e w' ⟨rfl, rfl⟩) | (go_at_call 35; (with_reducible refine (peek1 hA4).mono ?_); rintro e w' ⟨rfl, rfl⟩) | (go_at_call 35; (with_reducible refine (peek2 hA4).mono ?_); rintro e w' ⟨rfl, rfl⟩) | (go_at_call 42; refine (identifies_calls _ _ _ _).mono ?_; rintro e w' ⟨rfl, rfl⟩))
                refine (name_sa hA4).mono ?_
                rintro e w5 ⟨rfl, hA5⟩
                obtain ⟨d0, d1, d2, d3, d4, d5, f0⟩ := tok_blk hA5 hlt
                go_wp2
                refine bodyPost_ret (v := tokV { kind := 26, unit := (ps s (num4 l) : Int) - ps s l } 0 0) (by unfold tokV; simp [results, Tryz.results45, go_sem, d0, d1, d2, d3, d4, d5]) rfl ⟨?_, ?_⟩
                · exact ret_tok (by rw [HE.out, HG.out])
                · refine SA.far6 ?_ (by omega) (by omega) _ _ _ _ _ _
                  rw [HE.out]
                  have := h9.from hA5
                  rw [← HO3.out, Bool.or_assoc] at this
                  exact this
end Go.Proofs.YtedckphklebndaaGreatDoor
