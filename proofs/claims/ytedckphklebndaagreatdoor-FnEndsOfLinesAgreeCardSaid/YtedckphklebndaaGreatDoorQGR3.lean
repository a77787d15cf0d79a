/- The logger's tracker: computeLineAndColumn walked. Conditions: those of the lexer in memory (LA). -/
import Derived.Test.YtedckphklebndaaGreatDoorQGP1
import Derived.Deep.QuietTactic
import Derived.BigQuiet
import Derived.StillTailTactics
import Derived.BigRegion
import Derived.Maps.OwnSet
import Derived.Test.YtedckphklebndaaGreatDoorProg
import Derived.Conc.MuLone
import Derived.Conc.MuData
import Derived.KernelRfl
import Derived.Laws.EntriesVeiled
import Derived.Test.YtedckphklebndaaGreatDoorQGS
import Derived.Test.YtedckphklebndaaGreatDoorQGX5
import Derived.Deep.RegionHeld3
namespace Go.Proofs.YtedckphklebndaaGreatDoor
open Go Go.RowKit
theorem results_tmp4 {fn : Func} {t u v x : Tmp} (h : fn.results = #[.tmp t, .tmp u, .tmp v, .tmp x]) (tmps : Array Value) (P : Program) (w : World) :
    (results fn tmps).run P w = .ok (.tuple #[tmps.getD t undef, tmps.getD u undef, tmps.getD v undef, tmps.getD x undef]) w := by
  simp [results, h]
theorem TR.eol {s : ByteArray} {r : Nat → Value} {lt : List Int} (h : TR s r lt) {n : Int} (hn : n = (ps s (lineE lt) : Nat)) : TR s (up (up r 30 (.bool true)) 28 (.int .i32 n)) lt := by
  obtain ⟨⟨a, b, c, d, e, f, _, i, j⟩, k⟩ := h
  exact ⟨⟨a, b, c, d, e, f, ⟨n, true, rfl, rfl, fun _ => hn⟩, i, j⟩, k⟩
theorem isLn_cases {c : Int} (h : isLn c = true) : (c == 10) = true ∨ ((c == 10) = false ∧ (c == 13) = true) ∨ ((c == 10) = false ∧ (c == 13) = false ∧ (c == 8232) = true) ∨ ((c == 10) = false ∧ (c == 13) = false ∧ (c == 8232) = false ∧ (c == 8233) = true) := by
  unfold isLn at h
  cases q1 : (c == 10) with
  | true => exact .inl rfl
  | false =>
    cases q2 : (c == 13) with
    | true => exact .inr (.inl ⟨rfl, rfl⟩)
    | false =>
      cases q3 : (c == 8232) with
      | true => exact .inr (.inr (.inl ⟨rfl, rfl, rfl⟩))
      | false => rw [q1, q2, q3] at h; exact .inr (.inr (.inr ⟨rfl, rfl, rfl, by simpa using h⟩))
theorem isLn_false {c : Int} (h : isLn c = false) : (c == 10) = false ∧ (c == 13) = false ∧ (c == 8232) = false ∧ (c == 8233) = false := by
  unfold isLn at h
  simp only [Bool.or_eq_false_iff] at h
  exact ⟨h.1.1.1, h.1.1.2, h.1.2, h.2⟩
def tailLt (l : List Int) : Prop := l.tail.length < l.length
theorem tail_lt' {l : List Int} (h : l ≠ []) : tailLt l := by
  cases l with
  | nil => exact absurd rfl h
  | cons c t => unfold tailLt; simp
theorem LA.drewN {w0 w : World} {g : Nat} {s : ByteArray} {r : Nat → Value} {st : Nat} {l : List Int} (h : LA w0 w g s r st l) (n : Nat) : LA w0 (w.drewN n) g s r st l := h.keepA ((Keep.refl _ _).drewN n)
/-- computeLineAndColumn's loop to the end of the line. -/
def CK (w0 : World) (g : Nat) (s : ByteArray) (r : Nat → Value) (st : Nat) (l lo : List Int) (k : Nat) (a : Value) (w : World) : Prop :=
  ∃ li, li.length = k ∧ a = .int .i32 (ps s li) ∧ Sfx s li ∧ lineE li = lineE lo ∧ LA w0 w g s r st l
/-- What computeLineAndColumn leaves. -/
def CP (w0 : World) (g : Nat) (s : ByteArray) (r : Nat → Value) (st : Nat) (l lo : List Int) (e : Ending) (w' : World) : Prop :=
  ∃ (a : Nat) (b : Int) (c d : Nat) (r' : Nat → Value), e = .returned (.tuple #[.int .i64 a, .int .i64 b, .int .i64 c, .int .i64 d]) ∧ a ≤ 1073741824 ∧ c ≤ d ∧ d ≤ s.size ∧ 0 ≤ b ∧ b ≤ s.size ∧ LA w0 w' g s r' st l ∧ Out 25 30 r r' ∧ TR s r' lo
set_option maxRecDepth 100000 in
set_option maxHeartbeats 4000000 in
theorem computeLine_la {w0 w : World} {g : Nat} {s : ByteArray} {r : Nat → Value} {st : Nat} {l lt lo : List Int} (h : LA w0 w g s r st l) (hT : TR s r lt) (hs : lo <:+ lt) :
    Calls Tryz.prog 130 #[.pointer (some ⟨g, 22, none⟩), .int .i64 (ps s lo)] w (CP w0 g s r st l lo) := by
  have hsz := h.size
  have b2 := ps_le s lo
  have b3 : ps s lo ≤ 1073741824 := by omega
  go_enter Tryz.func130, Tryz.ntmps130
  go_wp2_with fail
  refine (scanTo_la h hT hs).mono ?_
  rintro e w1 ⟨rfl, r1, hA1, hO1, hT1⟩
  clear h hT hs
  have c29 := hA1.c29
  rw [hT1.tm.c29] at c29
  have c30 := hA1.c30
  have c22 := hA1.c22
  rw [hT1.tm.c22] at c22
  have c25 := hA1.c25
  rw [hT1.c25] at c25
  obtain ⟨n28, b30, q28, q30, q⟩ := hT1.tm.c28
  rw [q30] at c30
  have HQ := Lib.hid q
  have HQ28 := Lib.hid q28
  have HQ30 := Lib.hid q30
  clear q q28 q30
  go_upto_if 72 with (fail)
  go_cut [] (fun wc => ∃ r2, LA w0 wc g s r2 st l ∧ Out 25 30 r r2 ∧ TR s r2 lo ∧ r2 30 = .bool true)
  case first =>
    cases b30 with
    | true =>
      go_wp2_with fail
      go_meet
      case rel => exact ⟨r1, hA1, hO1, hT1, HQ30.out⟩
    | false =>
      go_wp2_with fail
      go_loopg [13] lo.length (fun k a wr => CK w0 g s r1 st l lo k a wr)
      case atStart => exact ⟨lo, rfl, rfl, hT1.tm.sfx, rfl, hA1⟩
      case round =>
        obtain ⟨li, hk, ha, hS, hE, hA⟩ := hrel
        subst ha
        have HK := Lib.hid hk
        have HE := Lib.hid hE
        have b4 := ps_le s li
        have b4' : ps s li ≤ 1073741824 := by omega
        have b5 := ps_step hS
        have b6 := ps_le s li.tail
        have b9 := wdl_le li
        have B5 := Lib.hid b5
        clear hk hE c22 c25 c29 c30
        have hdec := dec_sfx hS wr hA.tabs
        by_cases hn : li = []
        · have hz : ps s li = s.size := by rw [hn]; simp
          have HEE : Hid (lineE lo = []) := Lib.hid (by rw [← HE.out, hn]; rfl)
          have c30 := hA.c30
          have c28 := hA.c28
          have f30 := hA.frozen 30
          have f28 := hA.frozen 28
          clear hn
          go_wp2_with fail
          go_meet
          case rel => exact ⟨_, (hA.up30 _).up28 _, (hO1.up (by omega) (by omega) _).up (by omega) (by omega) _, hT1.eol (by rw [HEE.out, ps_nil]), rfl⟩
        · have hlt := ps_lt' hS hn
          have hrn := rn_cons hn
          rw [hrn] at hdec
          have hlt2 : (tailLt li) := tail_lt' hn
          have HLt := Lib.hid hlt2
          have HN := Lib.hid hn
          have b12 : ps s li + wdl li ≤ 1073741824 := by omega
          clear hn hrn hlt2 b5 b6
          cases hl : isLn (hd li) with
          | true =>
            have HEE : Hid (lineE lo = li) := Lib.hid (by rw [← HE.out]; exact lineE_stop hl)
            have hk := isLn_cases hl
            clear hl
            rcases hk with k2 | ⟨k1, k2⟩ | ⟨k1, k2, k3⟩ | ⟨k1, k2, k3, k4⟩
            all_goals
              go_wp2_with fail
              refine hdec.mono ?_
              rintro e w1 ⟨rfl, hbel⟩
              have hB := hA.keepA (Keep.of_below hbel _)
              have c30 := hB.c30
              have c28 := hB.c28
              have f30 := hB.frozen 30
              have f28 := hB.frozen 28
              go_wp2_with fail
              go_meet
              case rel => exact ⟨_, (hB.up30 _).up28 _, (hO1.up (by omega) (by omega) _).up (by omega) (by omega) _, hT1.eol (by rw [HEE.out]), rfl⟩
          | false =>
            have HEE : Hid (lineE li.tail = lineE lo) := Lib.hid (by rw [← HE.out]; exact (lineE_go HN.out hl).symm)
            obtain ⟨k1, k2, k3, k4⟩ := isLn_false hl
            clear hl
            go_wp2_with fail
            refine hdec.mono ?_
            rintro e w1 ⟨rfl, hbel⟩
            have hB := hA.keepA (Keep.of_below hbel _)
            go_wp2_with fail
            go_roundg li.tail.length
            case measure => have := HLt.out; have := HK.out; unfold tailLt at *; omega
            case rel => exact ⟨li.tail, rfl, (by have := B5.out; congr 1; omega), hS.tl, HEE.out, hB⟩
  case rest =>
    obtain ⟨r2, hA2, hO2, hT2, h30⟩ := hcut
    obtain ⟨n26, m26, q26⟩ := hT2.tm.c26
    obtain ⟨n27, m27, q27⟩ := hT2.tm.c27
    obtain ⟨n28', b30', q28, q30, q⟩ := hT2.tm.c28
    have h31 : b30' = true := by rw [h30] at q30; injection q30 with q30; exact q30.symm
    have h32 := q h31
    have h33 := ps_suf hT2.tm.sfx (lineE_suf lo)
    have h34 := ps_le s (lineE lo)
    obtain ⟨d, hd⟩ : ∃ d, ps s (lineE lo) = d := ⟨_, rfl⟩
    rw [hd] at h32 h33 h34
    rw [h32] at q28
    have d26 := hA2.c26
    rw [q26] at d26
    have d27 := hA2.c27
    rw [q27] at d27
    have d28 := hA2.c28
    rw [q28] at d28
    have HT := Lib.hid hT2
    clear q26 q27 q28 q30 q h30 h31 h32 hd hT2 hT1 c22 c25 c29 c30 HQ HQ28 HQ30
    have b4 : n26 ≤ 1073741824 := by omega
    have b5 : n27 ≤ 1073741824 := by omega
    have b6 : d ≤ 1073741824 := by omega
    go_wp2_with fail
    go_quiet (fail)
    go_wp2_with fail
    refine bodyPost_ret (results_tmp4 rfl _ _ _) rfl ?_
    exact ⟨n26, (ps s lo : Int) - n27, n27, d, r2, rfl, b4, by omega, h34, by omega, by omega, hA2.drewN _, hO2, HT.out⟩
end Go.Proofs.YtedckphklebndaaGreatDoor
/- The logger's locations: allowOverride, MsgLocationOrNil, MsgData walked. Conditions: those of the lexer in memory (LA). -/
namespace Go.Proofs.YtedckphklebndaaGreatDoor
open Go Go.RowKit
set_option maxRecDepth 100000 in
set_option maxHeartbeats 1000000 in
theorem allowOverride_calls (id kind : Int) (hid : id = 34 ∨ id = 39) (w : World) : Calls Tryz.prog 108 #[.map none, .int .u8 id, .int .u8 kind] w fun e w' => e = .returned (.tuple #[.int .u8 kind, .bool true]) ∧ w = w' := by
  have hlk : ∀ w : World, (Instr.lookup 73 (.map none) (.int .u8 id) true).run Tryz.prog w = .ok (.tuple #[.int .i8 0, .bool false]) w := fun w => Maps.look_nil true (Maps.int_keyed Tryz.underlying5) Tryz.underlying73 (by kernel_rfl) (kl := .int .u8 id) (by rcases hid with rfl | rfl <;> kernel_rfl)
  clear hid
  go_enter Tryz.func108, Tryz.ntmps108
  go_wp2_with fail
  go_ret2
  exact ⟨rfl, rfl⟩
/-- What MsgLocationOrNil leaves. -/
def LP (w0 : World) (g : Nat) (s : ByteArray) (r : Nat → Value) (st : Nat) (l lo : List Int) (e : Ending) (w' : World) : Prop :=
  ∃ (a : Addr) (r' : Nat → Value), e = .returned (.pointer (some a)) ∧ LA w0 w' g s r' st l ∧ Out 25 30 r r' ∧ TR s r' lo
set_option maxRecDepth 100000 in
set_option maxHeartbeats 4000000 in
theorem MsgLocation_la {w0 w : World} {g : Nat} {s : ByteArray} {r : Nat → Value} {st : Nat} {l lt lo : List Int} (h : LA w0 w g s r st l) (hT : TR s r lt) (hs : lo <:+ lt) {a b : Int} (ha : a = ps s lo) (hb : -2147483648 ≤ b ∧ b ≤ 2147483647) :
    Calls Tryz.prog 124 #[.pointer (some ⟨g, 22, none⟩), .agg #[.int .i32 a, .int .i32 b]] w (LP w0 g s r st l lo) := by
  subst ha
  have hsz := h.size
  have b2 := ps_le s lo
  have b3 : ps s lo ≤ 1073741824 := by omega
  obtain ⟨hb1, hb2⟩ := hb
  have hA0 : LA w0 (w.alloc (.cells #[.int .i32 (ps s lo), .int .i32 b] 50)) g s r st l := h.keepA ((Keep.refl _ _).alloc _)
  have c31 := hA0.c31
  rw [hT.tm.c31] at c31
  go_enter Tryz.func124, Tryz.ntmps124
  go_wp2_with fail
  have hgl := h.lt
  have hc0 : (w.alloc (.cells #[.int .i32 (ps s lo), .int .i32 b] 50)).heap[w.heap.size]? = some (.cells #[.int .i32 (ps s lo), .int .i32 b] 50 (0, 0)) := heap_alloc_new w _
  have hw0 := h.kp.size
  refine (computeLine_la hA0.now hT hs).mono ?_
  rintro e w1 ⟨n1, n2, n3, n4, r1, rfl, e1, e2, e3, e4, e5, hA1, hO1, hT1⟩
  have hN : w1.heap[w.heap.size]? = some (.cells #[.int .i32 (ps s lo), .int .i32 b] 50 (0, 0)) := hA1.kp.blk hc0 (by omega)
  have hA2 := hA0.from hA1
  obtain ⟨t23, h23⟩ := hT1.tm.c23
  obtain ⟨t24, h24⟩ := hT1.tm.c24
  have d22 := hA2.c22
  rw [hT1.tm.c22] at d22
  have d23 := hA2.c23
  rw [h23] at d23
  have d24 := hA2.c24
  rw [h24] at d24
  have dB : w1.cell? ⟨w.heap.size, 1, none⟩ = some (.int .i32 b) := (blk_cell hN 1).trans rfl
  have HT := Lib.hid hT1
  have HA := Lib.hid hA2
  have HO := Lib.hid hO1
  clear h23 h24 hN hA1 hT1 hO1 hA0 hc0 h hT c31 hA2
  have b4 : n4 ≤ 1073741824 := by omega
  have b5 : n3 ≤ 1073741824 := by omega
  have b6 : (n3 : Int) ≤ n4 := by omega
  have b7 : (n4 : Int) ≤ s.size := by omega
  obtain ⟨H, hH⟩ : ∃ x, w.heap.size = x := ⟨_, rfl⟩
  rw [hH] at dB ⊢
  clear hH
  go_wp2_with fail
  go_still_tail 18, (by kernel_rfl)
  change wpList _ _ _ _ _ w1.drew
  go_wp2_with fail
  go_ret
  exact ⟨_, r1, rfl, HA.out.keepA ((Keep.refl _ _).alloc _).drew, HO.out, HT.out⟩
/-- What MsgData leaves. -/
def DP (w0 : World) (g : Nat) (s : ByteArray) (r : Nat → Value) (st : Nat) (l lo : List Int) (t : ByteArray) (e : Ending) (w' : World) : Prop :=
  ∃ (a : Addr) (r' : Nat → Value), e = .returned (.agg #[.nilIface, .pointer (some a), .string t, .bool false]) ∧ LA w0 w' g s r' st l ∧ Out 25 30 r r' ∧ TR s r' lo
set_option maxRecDepth 100000 in
set_option maxHeartbeats 4000000 in
theorem MsgData_la {w0 w : World} {g : Nat} {s : ByteArray} {r : Nat → Value} {st : Nat} {l lt lo : List Int} (h : LA w0 w g s r st l) (hT : TR s r lt) (hs : lo <:+ lt) {a b : Int} (ha : a = ps s lo) (hb : -2147483648 ≤ b ∧ b ≤ 2147483647) (t : ByteArray) :
    Calls Tryz.prog 107 #[.pointer (some ⟨g, 22, none⟩), .agg #[.int .i32 a, .int .i32 b], .string t] w (DP w0 g s r st l lo t) := by
  subst ha
  have hA0 : LA w0 ((w.alloc (.cells #[.int .i32 (ps s lo), .int .i32 b] 50)).alloc (.cells #[.nilIface, .pointer none, .string ⟨#[]⟩, .bool false] 110)) g s r st l := h.keepA (((Keep.refl _ _).alloc _).alloc _)
  have hH0 : ((w.alloc (.cells #[.int .i32 (ps s lo), .int .i32 b] 50)).alloc (.cells #[.nilIface, .pointer none, .string ⟨#[]⟩, .bool false] 110)).heap[w.heap.size + 1]? = some (.cells #[.nilIface, .pointer none, .string ⟨#[]⟩, .bool false] 110 (0, 0)) := by
    have e := heap_alloc_new (w.alloc (.cells #[.int .i32 (ps s lo), .int .i32 b] 50)) (.cells #[.nilIface, .pointer none, .string ⟨#[]⟩, .bool false] 110)
    have e2 : (w.alloc (.cells #[.int .i32 (ps s lo), .int .i32 b] 50)).heap.size = w.heap.size + 1 := by simp
    rw [e2] at e
    exact e
  have hgl := h.lt
  have hw0 := h.kp.size
  have hbg := h.big
  go_enter Tryz.func107, Tryz.ntmps107
  go_wp2_with fail
  refine (MsgLocation_la hA0.now hT hs rfl hb).mono ?_
  rintro e w1 ⟨a1, r1, rfl, hA1, hO, hT1⟩
  have hH1 := hA1.kp.blk hH0 (by omega)
  have hA2 := hA0.from hA1
  obtain ⟨H, hH⟩ : ∃ x, w.heap.size + 1 = x := ⟨_, rfl⟩
  have hHg : H ≠ g := by omega
  have hH2 : 2 ≤ H := by omega
  have hHw : w0.heap.size ≤ H := by omega
  rw [hH] at hH1 ⊢
  have d0 : w1.cell? ⟨H, 0, none⟩ = some .nilIface := (blk_cell hH1 0).trans rfl
  have d1 : w1.cell? ⟨H, 1, none⟩ = some (.pointer none) := (blk_cell hH1 1).trans rfl
  have d2 : w1.cell? ⟨H, 2, none⟩ = some (.string ⟨#[]⟩) := (blk_cell hH1 2).trans rfl
  have d3 : w1.cell? ⟨H, 3, none⟩ = some (.bool false) := (blk_cell hH1 3).trans rfl
  have f0 := blk_frozen hH1 0
  have f1 := blk_frozen hH1 1
  have f2 := blk_frozen hH1 2
  have f3 := blk_frozen hH1 3
  have HA := Lib.hid hA2
  have HT := Lib.hid hT1
  have HO := Lib.hid hO
  clear hH0 hH hA1 hA2 hT1 hO hA0 h hT
  go_wp2_with fail
  refine bodyPost_ret (v := .agg #[.nilIface, .pointer (some a1), .string t, .bool false]) (by simp [results, Tryz.results107, go_sem, d0, d1, d2, d3]) rfl ⟨a1, r1, rfl, ?_, HO.out, HT.out⟩
  have hK : Keep (fun k => k = H) w1 ((((w1.setCell ⟨H, 0, none⟩ .nilIface).setCell ⟨H, 1, none⟩ (.pointer (some a1))).setCell ⟨H, 2, none⟩ (.string t)).setCell ⟨H, 3, none⟩ (.bool false)) :=
    ((((Keep.refl (fun k => k = H) w1).setCell (p := ⟨H, 0, none⟩) (fun _ => rfl) _).setCell (p := ⟨H, 1, none⟩) (fun _ => rfl) _).setCell (p := ⟨H, 2, none⟩) (fun _ => rfl) _).setCell (p := ⟨H, 3, none⟩) (fun _ => rfl) _
  have hb2 := HA.out.big
  exact HA.out.keep hK (fun j _ e => by rw [e]; exact hHw) (fun e => hHg e.symm) (by omega) (by omega)
end Go.Proofs.YtedckphklebndaaGreatDoor
/- The numbers under which the translation holds the library's lock, and that it holds it. -/
namespace Go.Proofs.YtedckphklebndaaGreatDoor
open Go
abbrev muLink : Go.Conc.Locks.MuLink := { lock := 49, unlock := 50, ilock := 72, iunlock := 73, lockSlow := 97, unlockSlow := 100, disable := 93, enable := 95, acquire := 96, relMerge := 98, cas32 := 94, add32 := 99, tMutex := 106, tIMutex := 104, tPMutex := 137, tPIMutex := 149, tPI32 := 151, tUP := 153, tNoCopy := 102, tU32 := 86 }
theorem muLib : Go.Conc.Locks.MuLib Tryz.prog muLink :=
  ⟨Tryz.func49, Tryz.func50, Tryz.func72, Tryz.func73, Tryz.func93, Tryz.func95, Tryz.func96, Tryz.func98, Tryz.func94, Tryz.func99, Tryz.underlying104, Tryz.runUnderlying104, Tryz.sizeOf104, Tryz.isAgg104, Tryz.zeroValue104, Tryz.underlying106, Tryz.runUnderlying106, Tryz.sizeOf106, Tryz.isAgg106, Tryz.zeroValue106, Tryz.underlying137, Tryz.runUnderlying137, Tryz.sizeOf137, Tryz.isAgg137, Tryz.zeroValue137, Tryz.underlying149, Tryz.runUnderlying149, Tryz.sizeOf149, Tryz.isAgg149, Tryz.zeroValue149, Tryz.underlying151, Tryz.runUnderlying151, Tryz.sizeOf151, Tryz.isAgg151, Tryz.zeroValue151, Tryz.underlying153, Tryz.runUnderlying153, Tryz.sizeOf153, Tryz.isAgg153, Tryz.zeroValue153, Tryz.underlying102, Tryz.runUnderlying102, Tryz.sizeOf102, Tryz.isAgg102, Tryz.zeroValue102, Tryz.underlying21, Tryz.runUnderlying21, Tryz.sizeOf21, Tryz.isAgg21, Tryz.zeroValue21, (by kernel_rfl)⟩
end Go.Proofs.YtedckphklebndaaGreatDoor
/- The logger: what it holds in memory; NewDeferLog and AddMsg walked. Conditions: the log's blocks stand (LogB); fewer than 2^31 messages. -/
namespace Go.Proofs.YtedckphklebndaaGreatDoor
open Go Go.RowKit Go.MuLone
theorem info113 : (Tryz.prog.info? 113).map (fun i => (i.zero, i.size, i.bytes)) = some (some (.agg #[.slice none 0 0, .string ⟨#[]⟩, .nilIface, .pointer none, .string ⟨#[]⟩, .bool false, .int .u8 0, .int .u8 0]), 8, 96) := by kernel_rfl
/-- The log's blocks: its kind, its lock, whether it has errors, its messages. -/
structure LogL (x : Int) (B kd mu he ms q : Nat) (v : Value) (w : World) : Prop where
  hkd : w.heap[kd]? = some (.cells #[.int .u8 0] 77 (0, 0))
  hmu : w.heap[mu]? = some (.cells #[.int .i32 x, .int .u32 0] 106 (0, 0))
  hhe : ∃ b, w.heap[he]? = some (.cells #[.bool b] 4 (0, 0))
  hms : w.heap[ms]? = some (.cells #[v] 100 (0, 0))
  own : ∃ n xs, w.ownsRow B 113 8 v n xs ∧ n ≤ q
/-- .. the lock free. -/
abbrev LogB (B kd mu he ms q : Nat) (v : Value) (w : World) : Prop := LogL 0 B kd mu he ms q v w
theorem blk_ne {w : World} {a b : Nat} {xs ys : Array Value} {s t : TypeId} {f f' : Nat × Nat} (h1 : w.heap[a]? = some (.cells xs s f)) (h2 : w.heap[b]? = some (.cells ys t f')) (ht : s ≠ t) : a ≠ b := by
  rintro rfl
  rw [h1] at h2
  injection h2 with h2
  injection h2 with _ h2 _
  exact ht h2
theorem LogL.keep {x : Int} {B kd mu he ms q : Nat} {v : Value} {w w' : World} {S : Nat → Prop} (h : LogL x B kd mu he ms q v w) (k : Keep S w w') (h1 : ¬ S kd) (h2 : ¬ S mu) (h3 : ¬ S he) (h4 : ¬ S ms) (h5 : ∀ k, v.ownBlock = some k → ¬ S k) : LogL x B kd mu he ms q v w' := by
  obtain ⟨a, b, ⟨c, c'⟩, d, n, xs, e, f⟩ := h
  exact ⟨k.blk a h1, k.blk b h2, ⟨c, k.blk c' h3⟩, k.blk d h4, n, xs, k.own e h5, f⟩
theorem LogL.turn {x : Int} {B kd mu he ms q : Nat} {v : Value} {w : World} (h : LogL x B kd mu he ms q v w) (y : Int) : LogL y B kd mu he ms q v (w.setCell ⟨mu, 0, none⟩ (.int .i32 y)) := by
  have K : KeepB mu w (w.setCell ⟨mu, 0, none⟩ (.int .i32 y)) := (Keep.refl (fun k => k = mu) w).setCell (p := ⟨mu, 0, none⟩) (fun _ => rfl) _
  obtain ⟨a, b, ⟨c, c'⟩, d, n, xs, e, f⟩ := h
  exact ⟨K.blk a (blk_ne a b (by decide)), (blk_set b 0 _).trans rfl, ⟨c, K.blk c' (blk_ne c' b (by decide))⟩, K.blk d (blk_ne d b (by decide)), n, xs, K.own e (fun k e1 e2 => own_ne e b (by decide) (by rw [e1, e2])), f⟩
theorem LogL.err {x : Int} {B kd mu he ms q : Nat} {v : Value} {w : World} (h : LogL x B kd mu he ms q v w) (y : Bool) : LogL x B kd mu he ms q v (w.setCell ⟨he, 0, none⟩ (.bool y)) := by
  have K : KeepB he w (w.setCell ⟨he, 0, none⟩ (.bool y)) := (Keep.refl (fun k => k = he) w).setCell (p := ⟨he, 0, none⟩) (fun _ => rfl) _
  obtain ⟨a, b, ⟨c, c'⟩, d, n, xs, e, f⟩ := h
  exact ⟨K.blk a (blk_ne a c' (by decide)), K.blk b (blk_ne b c' (by decide)), ⟨y, (blk_set c' 0 _).trans rfl⟩, K.blk d (blk_ne d c' (by decide)), n, xs, K.own e (fun k e1 e2 => own_ne e c' (by decide) (by rw [e1, e2])), f⟩
theorem LogL.msg {x : Int} {B kd mu he ms q q' n : Nat} {v v' : Value} {w w' : World} {xs : List Value} (h : LogL x B kd mu he ms q v w) (hg : w.grownBy w' v.ownBlock) (ho : w'.ownsRow B 113 8 v' n xs) (hn : n ≤ q') : LogL x B kd mu he ms q' v' (w'.setCell ⟨ms, 0, none⟩ v') := by
  have K1 : Keep (fun k => v.ownBlock = some k) w w' := Keep.of_grown hg _ (fun k e => e)
  have K : KeepB ms w' (w'.setCell ⟨ms, 0, none⟩ v') := (Keep.refl (fun k => k = ms) w').setCell (p := ⟨ms, 0, none⟩) (fun _ => rfl) _
  obtain ⟨a, b, ⟨c, c'⟩, d, m, ys, e, f⟩ := h
  have a1 := K1.blk a (own_ne e a (by decide))
  have b1 := K1.blk b (own_ne e b (by decide))
  have c1 := K1.blk c' (own_ne e c' (by decide))
  have d1 := K1.blk d (own_ne e d (by decide))
  exact ⟨K.blk a1 (blk_ne a1 d1 (by decide)), K.blk b1 (blk_ne b1 d1 (by decide)), ⟨c, K.blk c1 (blk_ne c1 d1 (by decide))⟩, (blk_set d1 0 _).trans rfl, n, xs, K.own ho (fun k e1 e2 => own_ne ho d1 (by decide) (by rw [e1, e2])), hn⟩
/-- A message. -/
def msgV (p : Option Addr) (n c : Nat) (a : Addr) (t : ByteArray) (k id : Int) : Value :=
  .agg #[.slice p n c, .string ⟨#[]⟩, .nilIface, .pointer (some a), .string t, .bool false, .int .u8 k, .int .u8 id]
/-- What AddMsg leaves. -/
def AP (B kd mu he ms q : Nat) (v : Value) (w : World) (e : Ending) (w' : World) : Prop :=
  e = .returned (.tuple #[]) ∧ ∃ v', LogB B kd mu he ms (q + 1) v' w' ∧ (∀ k, v'.ownBlock = some k → k < w.heap.size → v.ownBlock = some k) ∧ Keep (fun k => k = mu ∨ k = he ∨ k = ms ∨ v.ownBlock = some k) w w'
set_option maxRecDepth 100000 in
set_option maxHeartbeats 4000000 in
theorem AddMsg_calls {B kd mu he ms q : Nat} {v : Value} {w : World} (h : LogB B kd mu he ms q v w) (hq : q ≤ 1073741825) (hB : B ≤ w.heap.size) (p : Option Addr) (n c : Nat) (a : Addr) (t : ByteArray) (k id : Int) (hk : k = 0 ∨ k = 1) :
    Calls Tryz.prog 48 #[msgV p n c a t k id, .pointer (some ⟨kd, 0, none⟩), .pointer (some ⟨mu, 0, none⟩), .pointer (some ⟨he, 0, none⟩), .pointer (some ⟨ms, 0, none⟩)] w (AP B kd mu he ms q v w) := by
  obtain ⟨i0, hi0, hz0, hz1, hz2⟩ := info_parts info113
  unfold msgV
  obtain ⟨w0, hw0⟩ : ∃ x, w.alloc (.cells #[.slice p n c, .string ⟨#[]⟩, .nilIface, .pointer (some a), .string t, .bool false, .int .u8 k, .int .u8 id] 113) = x := ⟨_, rfl⟩
  have hK0 : KeepA w w0 := by rw [← hw0]; exact (Keep.refl _ _).alloc _
  have hH0 : w0.heap[w.heap.size]? = some (.cells #[.slice p n c, .string ⟨#[]⟩, .nilIface, .pointer (some a), .string t, .bool false, .int .u8 k, .int .u8 id] 113 (0, 0)) := by rw [← hw0]; exact heap_alloc_new w _
  have h0 : LogB B kd mu he ms q v w0 := h.keep hK0 (fun e => e) (fun e => e) (fun e => e) (fun e => e) (fun _ _ e => e)
  obtain ⟨H, hH⟩ : ∃ x, w.heap.size = x := ⟨_, rfl⟩
  rw [hH] at hH0
  have ckd : w0.cell? ⟨kd, 0, none⟩ = some (.int .u8 0) := (blk_cell h0.hkd 0).trans rfl
  have cmu : w0.cell? ⟨mu, 0, none⟩ = some (.int .i32 0) := (blk_cell h0.hmu 0).trans rfl
  have fmu := blk_frozen h0.hmu 0
  have HW := Lib.hid hw0
  have HH := Lib.hid hH
  clear hw0 hH
  go_enter_defers Tryz.func48, Tryz.ntmps48
  go_upto_region 1 with (fail)
  rw [HW.out, HH.out]
  go_wp2_with fail
  refine (lock_free muLib ⟨mu, 0, none⟩ _ cmu fmu).mono ?_
  rintro e w1 ⟨rfl, hw1⟩
  have h1 : LogL 1 B kd mu he ms q v w1 := by rw [hw1]; exact h0.turn 1
  have hne : mu ≠ H := (blk_ne hH0 h0.hmu (by decide)).symm
  have hK1 : KeepB mu w0 w1 := by rw [hw1]; exact (Keep.refl (fun k => k = mu) w0).setCell (p := ⟨mu, 0, none⟩) (fun _ => rfl) _
  have hH1 := hK1.blk hH0 (fun e => hne e.symm)
  have HH1 := Lib.hid hH1
  have ck : w1.cell? ⟨H, 6, none⟩ = some (.int .u8 k) := (blk_cell hH1 6).trans rfl
  have hsz : w.heap.size ≤ w1.heap.size := Nat.le_trans hK0.size hK1.size
  obtain ⟨b, hhe⟩ := h1.hhe
  have che : w1.cell? ⟨he, 0, none⟩ = some (.bool b) := (blk_cell hhe 0).trans rfl
  have fhe := blk_frozen hhe 0
  have HHE := Lib.hid hhe
  clear hw1 ckd cmu fmu hH0 hhe
  go_upto_if 21 with (fail)
  go_cut [] from 19 to 21 (fun wc => LogL 1 B kd mu he ms q v wc ∧ Keep (fun k => k = he) w1 wc)
  case first =>
    rcases hk with rfl | rfl
    all_goals
      go_wp2_with fail
      go_meet
      case rel => first | exact ⟨h1.err true, (Keep.refl (fun k => k = he) w1).setCell (p := ⟨he, 0, none⟩) (fun _ => rfl) _⟩ | exact ⟨h1, Keep.refl _ _⟩
  case rest =>
    obtain ⟨h2, hK2⟩ := hcut
    have hH2 := hK2.blk HH1.out (fun e => blk_ne HH1.out HHE.out (by decide) e)
    clear ck che fhe
    obtain ⟨m, xs, hown, hm⟩ := h2.own
    have cms : wc.cell? ⟨ms, 0, none⟩ = some v := (blk_cell h2.hms 0).trans rfl
    have fms := blk_frozen h2.hms 0
    have c0 : wc.cell? ⟨H, 0, none⟩ = some (.slice p n c) := (blk_cell hH2 0).trans rfl
    have c1 : wc.cell? ⟨H, 1, none⟩ = some (.string ⟨#[]⟩) := (blk_cell hH2 1).trans rfl
    have c2 : wc.cell? ⟨H, 2, none⟩ = some .nilIface := (blk_cell hH2 2).trans rfl
    have c3 : wc.cell? ⟨H, 3, none⟩ = some (.pointer (some a)) := (blk_cell hH2 3).trans rfl
    have c4 : wc.cell? ⟨H, 4, none⟩ = some (.string t) := (blk_cell hH2 4).trans rfl
    have c5 : wc.cell? ⟨H, 5, none⟩ = some (.bool false) := (blk_cell hH2 5).trans rfl
    have c6 : wc.cell? ⟨H, 6, none⟩ = some (.int .u8 k) := (blk_cell hH2 6).trans rfl
    have c7 : wc.cell? ⟨H, 7, none⟩ = some (.int .u8 id) := (blk_cell hH2 7).trans rfl
    have hsz2 : w.heap.size ≤ wc.heap.size := Nat.le_trans hsz hK2.size
    clear hH2
    have hne2 : v.ownBlock ≠ some ms := own_ne hown h2.hms (by decide)
    have HN := Lib.hid hne2
    have H2 := Lib.hid h2
    have HOW := Lib.hid hown
    have HMS := Lib.hid h2.hms
    clear hne2 h2 hown
    go_wp2_with (at_builtin; refine wpList_append_lies _ rfl _ _ 100 rfl B 113 i0 _ 8 96 Tryz.underlying100 hi0 hz0 hz1 hz2 rfl (by decide) v m xs rfl (HOW.out.alloc _) ⟨wc.heap.size, 0, none⟩ 1 1 [.slice p n c, .string ⟨#[]⟩, .nilIface, .pointer (some a), .string t, .bool false, .int .u8 k, .int .u8 id] rfl rfl (World.news_of_block (cs := #[.slice p n c, .string ⟨#[]⟩, .nilIface, .pointer (some a), .string t, .bool false, .int .u8 k, .int .u8 id]) (t := 113) (fr := (0, 0)) (heap_alloc_new wc _)) (by simp [Value.oneCell']) (by decide) (by unfold maxLen; omega) (by omega) (by simp; omega) (wc.heap.size + 1) (by simp) ?_; intro gg cap w3 hown3 hgrow hat hlt; have hB3 : w3.heap[ms]? = some (.cells #[v] 100 (0, 0)) := (Keep.of_grown hgrow (fun k => v.ownBlock = some k) (fun k e => e)).blk ((Keep.refl (fun _ => False) wc).alloc _ |>.blk HMS.out (fun e => e)) HN.out; have cms3 : w3.cell? ⟨ms, 0, none⟩ = some v := (blk_cell hB3 0).trans rfl; have fms3 := blk_frozen hB3 0; have HOW3 := Lib.hid hown3; have HG3 := Lib.hid hgrow; have HAT := Lib.hid hat; clear hB3 hown3 hgrow hat)
    have h3 : LogL 1 B kd mu he ms (q + 1) (.slice (some ⟨gg, 0, none⟩) (m + 1) cap) (w3.setCell ⟨ms, 0, none⟩ (.slice (some ⟨gg, 0, none⟩) (m + 1) cap)) :=
      (H2.out.keep ((Keep.refl (fun _ => False) wc).alloc _) (fun e => e) (fun e => e) (fun e => e) (fun e => e) (fun _ _ e => e)).msg HG3.out HOW3.out (by omega)
    have hK3 : Keep (fun k => k = mu ∨ k = he ∨ k = ms ∨ v.ownBlock = some k) w (w3.setCell ⟨ms, 0, none⟩ (.slice (some ⟨gg, 0, none⟩) (m + 1) cap)) :=
      (((((hK0.mono (fun _ _ e => e.elim)).trans (hK1.mono (fun k _ e => .inl e))).trans (hK2.mono (fun k _ e => .inr (.inl e)))).alloc _).trans (Keep.of_grown HG3.out _ (fun k e => .inr (.inr (.inr e))))).setCell (p := ⟨ms, 0, none⟩) (fun _ => .inr (.inr (.inl rfl))) _
    obtain ⟨w4, hw4⟩ : ∃ x, (w3.setCell ⟨ms, 0, none⟩ (.slice (some ⟨gg, 0, none⟩) (m + 1) cap)) = x := ⟨_, rfl⟩
    rw [hw4] at h3 hK3 ⊢
    have cmu4 : w4.cell? ⟨mu, 0, none⟩ = some (.int .i32 1) := (blk_cell h3.hmu 0).trans rfl
    have fmu4 := blk_frozen h3.hmu 0
    simp only [bodyPostD]
    refine leaves_cons (f := 50) (args := #[.pointer (some ⟨mu, 0, none⟩)]) (by simp) (by simp [go_sem]) ?_
    refine (unlock_deferred muLib ⟨mu, 0, none⟩ .returning _ cmu4 fmu4).mono ?_
    rintro e u' w'' ⟨rfl, rfl, rfl⟩
    refine ⟨_, results_none rfl _ _ _, rfl, _, h3.turn 0, fun k e1 e2 => ?_, hK3.setCell (p := ⟨mu, 0, none⟩) (fun _ => .inl rfl) _⟩
    simp only [Value.ownBlock, Option.some.injEq] at e1
    subst e1
    rcases HAT.out with e3 | e3
    · exact e3
    · omega
theorem alloc_at {w : World} {k : Nat} (o : Obj) (h : w.heap.size = k) : (w.alloc o).heap[k]? = some o := h ▸ heap_alloc_new w o
theorem alloc_old {w : World} {k : Nat} {x : Obj} (o : Obj) (h : w.heap[k]? = some x) : (w.alloc o).heap[k]? = some x := (Below.heap_alloc w o k (lt_of_blk h)).trans h
/-- The values of a log. -/
def logA (kd mu he ms : Nat) : List Value :=
  [.func (.func 48) #[] #[.pointer (some ⟨kd, 0, none⟩), .pointer (some ⟨mu, 0, none⟩), .pointer (some ⟨he, 0, none⟩), .pointer (some ⟨ms, 0, none⟩)],
   .func (.func 51) #[] #[.pointer (some ⟨mu, 0, none⟩), .pointer (some ⟨he, 0, none⟩)],
   .func (.func 52) #[] #[.pointer (some ⟨mu, 0, none⟩), .pointer (some ⟨ms, 0, none⟩)],
   .func (.func 53) #[] #[.pointer (some ⟨mu, 0, none⟩), .pointer (some ⟨ms, 0, none⟩)], .int .i8 3, .map none]
set_option maxRecDepth 100000 in
set_option maxHeartbeats 1000000 in
theorem NewDeferLog_calls (w : World) (B : Nat) : Calls Tryz.prog 31 #[.int .u8 0, .map none] w fun e w' => ∃ kd mu he ms, e = .returned (.agg (logA kd mu he ms).toArray) ∧ LogB B kd mu he ms 0 (.slice none 0 0) w' ∧ Below w.heap.size w w' ∧ w.heap.size ≤ kd ∧ w.heap.size ≤ mu ∧ w.heap.size ≤ he ∧ w.heap.size ≤ ms := by
  go_enter Tryz.func31, Tryz.ntmps31
  go_wp2_with fail
  refine bodyPost_ret (v := .agg (logA w.heap.size (w.heap.size + 1 + 1 + 1) (w.heap.size + 1 + 1 + 1 + 1) (w.heap.size + 1 + 1)).toArray) (by simp [results, Tryz.results31, go_sem, logA]) rfl ⟨_, _, _, _, rfl, ?_, ?_, by omega, by omega, by omega, by omega⟩
  · refine ⟨?_, ?_, ⟨false, ?_⟩, ?_, 0, [], World.ownsRow_nil _ _ _ _, Nat.le_refl _⟩
    · exact alloc_old _ (alloc_old _ (alloc_old _ (alloc_old _ (alloc_at _ rfl))))
    · exact alloc_old _ (alloc_at _ (by simp))
    · exact alloc_at _ (by simp)
    · exact alloc_old _ (alloc_old _ (alloc_at _ (by simp)))
  · exact (((((Below.refl _ _).alloc (Nat.le_refl _) _).alloc (by simp) _).alloc (by simp; omega) _).alloc (by simp; omega) _).alloc (by simp; omega) _
end Go.Proofs.YtedckphklebndaaGreatDoor
/- The laws' own functions over rows of tokens: what lies in memory; merged walked. Conditions: a row of at most 2^40 tokens. -/
namespace Go.Proofs.YtedckphklebndaaGreatDoor
open Go Go.RowKit
/-- A token of package impl. -/
structure PT where
  k : Int
  a : Int
  b : Int
  u : Int
  id : Bool
  t : ByteArray
def PT.cells (p : PT) : List Value := [.int .i64 p.k, .int .i64 p.a, .int .i64 p.b, .int .i64 p.u, .bool p.id, .string p.t]
def rowC (L : List PT) : List Value := L.flatMap PT.cells
theorem rowC_len (L : List PT) : (rowC L).length = L.length * 6 := by
  induction L with
  | nil => rfl
  | cons p L ih => simp only [rowC, List.flatMap_cons, List.length_append, List.length_cons] at ih ⊢; rw [ih]; simp [PT.cells]; omega
theorem rowC_snoc (L : List PT) (p : PT) : rowC (L ++ [p]) = rowC L ++ p.cells := by simp [rowC]
theorem rowC_get (L : List PT) (j i : Nat) (p : PT) (hj : L[j]? = some p) (hi : i < 6) : (rowC L)[j * 6 + i]? = p.cells[i]? := by
  induction L generalizing j with
  | nil => cases hj
  | cons q L ih =>
    have e : rowC (q :: L) = q.cells ++ rowC L := rfl
    have hl : q.cells.length = 6 := rfl
    cases j with
    | zero =>
      simp only [List.getElem?_cons_zero, Option.some.injEq] at hj
      subst hj
      rw [e, List.getElem?_append_left (by omega)]
      congr 1; omega
    | succ j =>
      rw [e, List.getElem?_append_right (by omega), hl, show (j + 1) * 6 + i - 6 = j * 6 + i by omega]
      exact ih j (by simpa using hj)
theorem info28 : (Tryz.prog.info? 28).map (fun i => (i.zero, i.size, i.bytes)) = some (some (.agg #[.int .i64 0, .int .i64 0, .int .i64 0, .int .i64 0, .bool false, .string ⟨#[]⟩]), 6, 56) := by kernel_rfl
/-- A row of tokens in memory. -/
def Rw (w : World) (B : Nat) (v : Value) (L : List PT) : Prop := w.ownsRow B 28 6 v L.length (rowC L)
theorem Rw.keep {w w1 : World} {B : Nat} {v : Value} {L : List PT} (h : Rw w B v L) (k : KeepA w w1) : Rw w1 B v L := k.own h (fun _ _ e => e)
theorem Rw.below {w w1 : World} {B : Nat} {v : Value} {L : List PT} (h : Rw w B v L) (k : Below w.heap.size w w1) : Rw w1 B v L := (Keep.of_below k (fun _ => False)).own h (fun _ _ e => e)
/-- The cells of a token in its row. -/
theorem Rw.parts {w : World} {B : Nat} {v : Value} {L : List PT} (h : Rw w B v L) : (v = .slice none 0 0 ∧ L = []) ∨
    ∃ g cap cur, v = .slice (some ⟨g, 0, none⟩) L.length cap ∧ B ≤ g ∧ w.heap[g]? = some (.cells cur 28 (0, 0)) ∧ L.length ≤ cap ∧ ∀ (j i : Nat) (p : PT), L[j]? = some p → i < 6 → cur[j * 6 + i]? = p.cells[i]? := by
  rcases h.2 with ⟨rfl, hn⟩ | ⟨g, cap, cur, rfl, hb, hg, hc, hm, hs, ht⟩
  · exact .inl ⟨rfl, List.length_eq_zero_iff.1 hn⟩
  · refine .inr ⟨g, cap, cur, rfl, hb, hg, hc, ?_⟩
    intro j i p hj hi
    have hlt : j < L.length := (List.getElem?_eq_some_iff.1 hj).1
    have e := rowC_get L j i p hj hi
    rw [← ht, List.getElem?_take_of_lt (by omega)] at e
    rw [← e]; simp
def wh (p : PT) : Bool := p.k == 38
def mrgP (L : List PT) : List PT := mrg wh false L
def lastW (O : List PT) : Bool := match O.getLast? with | some p => wh p | none => false
theorem lastW_snoc (O : List PT) (p : PT) : lastW (O ++ [p]) = wh p := by simp [lastW]
theorem lastW_some {O : List PT} (h : lastW O = true) : ∃ x, O[O.length - 1]? = some x ∧ (x.k == 38) = true := by
  unfold lastW at h
  rw [List.getLast?_eq_getElem?] at h
  cases q : O[O.length - 1]? with
  | none => rw [q] at h; cases h
  | some x => rw [q] at h; exact ⟨x, rfl, h⟩
theorem lastW_of {O : List PT} {x : PT} (h : O[O.length - 1]? = some x) (k : (x.k == 38) = true) : lastW O = true := by
  unfold lastW
  rw [List.getLast?_eq_getElem?, h]
  exact k
/-- The loop of merged. -/
def MG (w0 : World) (L : List PT) (n : Nat) (a i : Value) (w : World) : Prop :=
  ∃ (j : Nat) (O : List PT), i = .int .i64 (j : Nat) ∧ n = L.length - j ∧ j ≤ L.length ∧ O ++ mrg wh (lastW O) (L.drop j) = mrgP L ∧ O.length ≤ j ∧ Rw w w0.heap.size a O ∧ Below w0.heap.size w0 w
theorem MG.push {w wb w3 : World} {L O : List PT} {p : PT} {j gg cap : Nat} {v : Value} {o : Obj} (hm : O ++ [p] ++ mrg wh (lastW (O ++ [p])) (L.drop (j + 1)) = mrgP L) (ho : w3.ownsRow w.heap.size 28 6 (.slice (some ⟨gg, 0, none⟩) (O.length + 1) cap) (O.length + 1) (rowC O ++ [.int .i64 p.k, .int .i64 p.a, .int .i64 p.b, .int .i64 p.u, .bool p.id, .string p.t])) (hg : (wb.alloc o).grownBy w3 v.ownBlock)
    (hr : Rw wb w.heap.size v O) (hb : Below w.heap.size w wb) (hlt : j < L.length) (hO : O.length ≤ j) : MG w L (L.length - (j + 1)) (.slice (some ⟨gg, 0, none⟩) (O.length + 1) cap) (.int .i64 ((j : Int) + 1)) w3 := by
  have hw := hb.size
  refine ⟨j + 1, O ++ [p], by simp, rfl, by omega, hm, by simp; omega, ?_, ?_⟩
  · unfold Rw
    rw [rowC_snoc, List.length_append]
    exact ho
  · refine (hb.alloc hb.size _).trans ((Keep.of_grown hg (fun k => v.ownBlock = some k) (fun k e => e)).below (by simp; omega) (fun k _ e => (hr.lt k e).1))
set_option maxRecDepth 100000 in
set_option maxHeartbeats 4000000 in
theorem merged_calls {w : World} {B : Nat} {v : Value} {L : List PT} (h : Rw w B v L) (hL : L.length ≤ 1099511627776) :
    Calls Tryz.prog 11 #[v] w fun e w' => ∃ v', e = .returned v' ∧ Rw w' w.heap.size v' (mrgP L) ∧ Below w.heap.size w w' := by
  rcases h.parts with ⟨rfl, rfl⟩ | ⟨g, cap, cur, rfl, hB, hG0, hcap, hcur⟩
  · go_enter Tryz.func11, Tryz.ntmps11
    go_wp2_with fail
    go_loopg [3, 9] 0 (fun n a i wr => a = .slice none 0 0 ∧ i = .int .i64 0 ∧ wr = w)
    case atStart => exact ⟨rfl, rfl, rfl⟩
    case round =>
      obtain ⟨rfl, rfl, rfl⟩ := hrel
      go_wp2_with fail
      go_ret
      exact ⟨_, rfl, World.ownsRow_nil _ _ _ _, Below.refl _ _⟩
  · go_enter Tryz.func11, Tryz.ntmps11
    go_wp2_with fail
    go_loopg [3, 9] L.length (fun n a i wr => MG w L n a i wr)
    case atStart => exact ⟨0, [], rfl, rfl, Nat.zero_le _, by simp [mrgP, lastW], Nat.le_refl _, World.ownsRow_nil _ _ _ _, Below.refl _ _⟩
    case round =>
      obtain ⟨j, O, rfl, hn, hj, hm, hO, hown, hbel⟩ := hrel
      have HN := Lib.hid hn
      have HM := Lib.hid hm
      clear hn hm
      by_cases hlt : j < L.length
      · obtain ⟨p, hp⟩ : ∃ p, L[j]? = some p := ⟨L[j], List.getElem?_eq_getElem hlt⟩
        have hG : wr.heap[g]? = some (.cells cur 28 (0, 0)) := (hbel.block g (lt_of_blk hG0)).trans hG0
        have x0 : wr.cell? ⟨g, j * 6, none⟩ = some (.int .i64 p.k) := (blk_cell hG (j * 6 + 0)).trans (hcur j 0 p hp (by decide))
        have x1 : wr.cell? ⟨g, j * 6 + 1, none⟩ = some (.int .i64 p.a) := (blk_cell hG (j * 6 + 1)).trans (hcur j 1 p hp (by decide))
        have x2 : wr.cell? ⟨g, j * 6 + 2, none⟩ = some (.int .i64 p.b) := (blk_cell hG (j * 6 + 2)).trans (hcur j 2 p hp (by decide))
        have x3 : wr.cell? ⟨g, j * 6 + 3, none⟩ = some (.int .i64 p.u) := (blk_cell hG (j * 6 + 3)).trans (hcur j 3 p hp (by decide))
        have x4 : wr.cell? ⟨g, j * 6 + 4, none⟩ = some (.bool p.id) := (blk_cell hG (j * 6 + 4)).trans (hcur j 4 p hp (by decide))
        have x5 : wr.cell? ⟨g, j * 6 + 5, none⟩ = some (.string p.t) := (blk_cell hG (j * 6 + 5)).trans (hcur j 5 p hp (by decide))
        have hj1 : (j : Int) < L.length := by omega
        have hj2 : (0 : Int) ≤ j := by omega
        go_upto_region 5 with (fail)
        have hKb : KeepA wr (wr.alloc (.cells #[.int .i64 p.k, .int .i64 p.a, .int .i64 p.b, .int .i64 p.u, .bool p.id, .string p.t] 28)) := (Keep.refl _ _).alloc _
        have hBx : (wr.alloc (.cells #[.int .i64 p.k, .int .i64 p.a, .int .i64 p.b, .int .i64 p.u, .bool p.id, .string p.t] 28)).heap[wr.heap.size]? = some (.cells #[.int .i64 p.k, .int .i64 p.a, .int .i64 p.b, .int .i64 p.u, .bool p.id, .string p.t] 28 (0, 0)) := heap_alloc_new wr _
        have hX : w.heap.size ≤ wr.heap.size := hbel.size
        obtain ⟨wb, hwb⟩ : ∃ x, (wr.alloc (.cells #[.int .i64 p.k, .int .i64 p.a, .int .i64 p.b, .int .i64 p.u, .bool p.id, .string p.t] 28)) = x := ⟨_, rfl⟩
        obtain ⟨X, hXe⟩ : ∃ x, wr.heap.size = x := ⟨_, rfl⟩
        rw [hwb] at hKb hBx ⊢
        rw [hXe] at hBx hX ⊢
        have hownb : Rw wb w.heap.size u3 O := hown.keep hKb
        have hbelb : Below w.heap.size w wb := hbel.trans (hKb.below hbel.size (fun _ _ e => e.elim))
        clear hwb hXe x0 x1 x2 x3 x4 x5 hG hKb hown hbel
        have y0 : wb.cell? ⟨X, 0, none⟩ = some (.int .i64 p.k) := (blk_cell hBx 0).trans rfl
        have y1 : wb.cell? ⟨X, 1, none⟩ = some (.int .i64 p.a) := (blk_cell hBx 1).trans rfl
        have y2 : wb.cell? ⟨X, 2, none⟩ = some (.int .i64 p.b) := (blk_cell hBx 2).trans rfl
        have y3 : wb.cell? ⟨X, 3, none⟩ = some (.int .i64 p.u) := (blk_cell hBx 3).trans rfl
        have y4 : wb.cell? ⟨X, 4, none⟩ = some (.bool p.id) := (blk_cell hBx 4).trans rfl
        have y5 : wb.cell? ⟨X, 5, none⟩ = some (.string p.t) := (blk_cell hBx 5).trans rfl
        have hdr : L.drop j = p :: L.drop (j + 1) := by
          rw [List.drop_eq_getElem_cons hlt]
          congr 1
          rw [List.getElem?_eq_getElem hlt] at hp
          exact Option.some.inj hp
        have HM2 : Hid (O ++ mrg wh (lastW O) (p :: L.drop (j + 1)) = mrgP L) := Lib.hid (by rw [← hdr]; exact HM.out)
        clear hdr HM
        by_cases hsk : wh p = true ∧ lastW O = true
        · -- left out
          have HM3 : Hid (O ++ mrg wh (lastW O) (L.drop (j + 1)) = mrgP L) := Lib.hid (by
            rw [← HM2.out]
            simp only [mrg, hsk.1, hsk.2, Bool.and_self, if_true])
          obtain ⟨x, hx, hxw⟩ := lastW_some hsk.2
          rcases hownb.parts with ⟨_, hnil⟩ | ⟨g2, cap2, cur2, hv2, hb2, hg2, hc2, hcur2⟩
          · rw [hnil] at hx; cases hx
          · subst hv2
            have z0 : wb.cell? ⟨g2, (O.length - 1) * 6, none⟩ = some (.int .i64 x.k) := (blk_cell hg2 ((O.length - 1) * 6)).trans (hcur2 (O.length - 1) 0 x hx (by decide))
            have hol : 0 < O.length := by
              cases O with
              | nil => cases hx
              | cons a b => simp
            have k1 : (p.k == 38) = true := hsk.1
            have k2 : (x.k == 38) = true := hxw
            have hn1 : (0 : Int) ≤ (O.length : Int) - 1 := by omega
            have hn2 : (O.length : Int) - 1 < O.length := by omega
            have hn3 : ((O.length : Int) - 1).toNat = O.length - 1 := by omega
            have HOB := Lib.hid hownb
            clear hsk hx hownb
            go_wp2_with fail
            go_roundg (L.length - (j + 1))
            case measure => have := HN.out; omega
            case rel => exact ⟨j + 1, O, rfl, rfl, by omega, HM3.out, by omega, HOB.out, hbelb⟩
        · have HM3 : Hid (O ++ [p] ++ mrg wh (lastW (O ++ [p])) (L.drop (j + 1)) = mrgP L) := Lib.hid (by
            rw [← HM2.out, lastW_snoc]
            have e : ¬ (wh p && lastW O) = true := by simpa using hsk
            simp only [mrg]
            rw [if_neg e]
            simp)
          obtain ⟨i0, hi0, hz0, hz1, hz2⟩ := info_parts info28
          have HOW := Lib.hid hownb
          have hbl := hbelb.size
          have y6 : True := trivial
          rcases hownb.parts with ⟨rfl, rfl⟩ | ⟨g2, cap2, cur2, rfl, hb2, hg2, hc2, hcur2⟩
          · clear hsk hownb
            cases k1 : (p.k == 38) with
            | false =>
              go_upto_region 7 with (fail)
              clear y6
              go_wp2_with (at_builtin; refine wpList_append_lies _ rfl _ _ 24 rfl w.heap.size 28 i0 _ 6 56 Tryz.underlying24 hi0 hz0 hz1 hz2 rfl (by decide) (.slice none 0 0) 0 (rowC []) rfl (HOW.out.alloc _) ⟨wb.heap.size, 0, none⟩ 1 1 [.int .i64 p.k, .int .i64 p.a, .int .i64 p.b, .int .i64 p.u, .bool p.id, .string p.t] rfl rfl (World.news_of_block (cs := #[.int .i64 p.k, .int .i64 p.a, .int .i64 p.b, .int .i64 p.u, .bool p.id, .string p.t]) (t := 28) (fr := (0, 0)) (heap_alloc_new wb _)) (by simp [Value.oneCell']) (by decide) (by unfold maxLen; omega) (by omega) (by simp; omega) (wb.heap.size + 1) (by simp) ?_; intro gg cap3 w3 hown3 hgrow hat hlt3; have HO3 := Lib.hid hown3; have HG3 := Lib.hid hgrow; clear hown3 hgrow hat)
              go_roundg (L.length - (j + 1))
              case measure => have := HN.out; omega
              case rel => exact MG.push HM3.out HO3.out HG3.out HOW.out hbelb hlt hO
            | true =>
              go_upto_region 7 with (fail)
              clear y6
              go_wp2_with (at_builtin; refine wpList_append_lies _ rfl _ _ 24 rfl w.heap.size 28 i0 _ 6 56 Tryz.underlying24 hi0 hz0 hz1 hz2 rfl (by decide) (.slice none 0 0) 0 (rowC []) rfl (HOW.out.alloc _) ⟨wb.heap.size, 0, none⟩ 1 1 [.int .i64 p.k, .int .i64 p.a, .int .i64 p.b, .int .i64 p.u, .bool p.id, .string p.t] rfl rfl (World.news_of_block (cs := #[.int .i64 p.k, .int .i64 p.a, .int .i64 p.b, .int .i64 p.u, .bool p.id, .string p.t]) (t := 28) (fr := (0, 0)) (heap_alloc_new wb _)) (by simp [Value.oneCell']) (by decide) (by unfold maxLen; omega) (by omega) (by simp; omega) (wb.heap.size + 1) (by simp) ?_; intro gg cap3 w3 hown3 hgrow hat hlt3; have HO3 := Lib.hid hown3; have HG3 := Lib.hid hgrow; clear hown3 hgrow hat)
              go_roundg (L.length - (j + 1))
              case measure => have := HN.out; omega
              case rel => exact MG.push HM3.out HO3.out HG3.out HOW.out hbelb hlt hO
          · cases k1 : (p.k == 38) with
            | false =>
              clear hsk hownb
              go_upto_region 7 with (fail)
              clear y6
              go_wp2_with (at_builtin; refine wpList_append_lies _ rfl _ _ 24 rfl w.heap.size 28 i0 _ 6 56 Tryz.underlying24 hi0 hz0 hz1 hz2 rfl (by decide) (.slice (some ⟨g2, 0, none⟩) O.length cap2) O.length (rowC O) rfl (HOW.out.alloc _) ⟨wb.heap.size, 0, none⟩ 1 1 [.int .i64 p.k, .int .i64 p.a, .int .i64 p.b, .int .i64 p.u, .bool p.id, .string p.t] rfl rfl (World.news_of_block (cs := #[.int .i64 p.k, .int .i64 p.a, .int .i64 p.b, .int .i64 p.u, .bool p.id, .string p.t]) (t := 28) (fr := (0, 0)) (heap_alloc_new wb _)) (by simp [Value.oneCell']) (by decide) (by unfold maxLen; omega) (by omega) (by simp; omega) (wb.heap.size + 1) (by simp) ?_; intro gg cap3 w3 hown3 hgrow hat hlt3; have HO3 := Lib.hid hown3; have HG3 := Lib.hid hgrow; clear hown3 hgrow hat)
              go_roundg (L.length - (j + 1))
              case measure => have := HN.out; omega
              case rel => exact MG.push HM3.out HO3.out HG3.out HOW.out hbelb hlt hO
            | true =>
              by_cases hol : 0 < O.length
              · obtain ⟨x, hx⟩ : ∃ x, O[O.length - 1]? = some x := ⟨O[O.length - 1]'(by omega), List.getElem?_eq_getElem (by omega)⟩
                have z0 : wb.cell? ⟨g2, (O.length - 1) * 6, none⟩ = some (.int .i64 x.k) := (blk_cell hg2 ((O.length - 1) * 6)).trans (hcur2 (O.length - 1) 0 x hx (by decide))
                have k2 : (x.k == 38) = false := by
                  cases q : (x.k == 38) with
                  | false => rfl
                  | true => exact absurd ⟨k1, lastW_of hx q⟩ hsk
                have hn1 : (0 : Int) ≤ (O.length : Int) - 1 := by omega
                have hn2 : (O.length : Int) - 1 < O.length := by omega
                have hn3 : ((O.length : Int) - 1).toNat = O.length - 1 := by omega
                clear hsk hownb hx
                go_upto_region 7 with (fail)
                clear y6
                go_wp2_with (at_builtin; refine wpList_append_lies _ rfl _ _ 24 rfl w.heap.size 28 i0 _ 6 56 Tryz.underlying24 hi0 hz0 hz1 hz2 rfl (by decide) (.slice (some ⟨g2, 0, none⟩) O.length cap2) O.length (rowC O) rfl (HOW.out.alloc _) ⟨wb.heap.size, 0, none⟩ 1 1 [.int .i64 p.k, .int .i64 p.a, .int .i64 p.b, .int .i64 p.u, .bool p.id, .string p.t] rfl rfl (World.news_of_block (cs := #[.int .i64 p.k, .int .i64 p.a, .int .i64 p.b, .int .i64 p.u, .bool p.id, .string p.t]) (t := 28) (fr := (0, 0)) (heap_alloc_new wb _)) (by simp [Value.oneCell']) (by decide) (by unfold maxLen; omega) (by omega) (by simp; omega) (wb.heap.size + 1) (by simp) ?_; intro gg cap3 w3 hown3 hgrow hat hlt3; have HO3 := Lib.hid hown3; have HG3 := Lib.hid hgrow; clear hown3 hgrow hat)
                go_roundg (L.length - (j + 1))
                case measure => have := HN.out; omega
                case rel => exact MG.push HM3.out HO3.out HG3.out HOW.out hbelb hlt hO
              · have hn1 : ¬ (0 : Int) < O.length := by omega
                clear hsk hownb
                go_upto_region 7 with (fail)
                clear y6
                go_wp2_with (at_builtin; refine wpList_append_lies _ rfl _ _ 24 rfl w.heap.size 28 i0 _ 6 56 Tryz.underlying24 hi0 hz0 hz1 hz2 rfl (by decide) (.slice (some ⟨g2, 0, none⟩) O.length cap2) O.length (rowC O) rfl (HOW.out.alloc _) ⟨wb.heap.size, 0, none⟩ 1 1 [.int .i64 p.k, .int .i64 p.a, .int .i64 p.b, .int .i64 p.u, .bool p.id, .string p.t] rfl rfl (World.news_of_block (cs := #[.int .i64 p.k, .int .i64 p.a, .int .i64 p.b, .int .i64 p.u, .bool p.id, .string p.t]) (t := 28) (fr := (0, 0)) (heap_alloc_new wb _)) (by simp [Value.oneCell']) (by decide) (by unfold maxLen; omega) (by omega) (by simp; omega) (wb.heap.size + 1) (by simp) ?_; intro gg cap3 w3 hown3 hgrow hat hlt3; have HO3 := Lib.hid hown3; have HG3 := Lib.hid hgrow; clear hown3 hgrow hat)
                go_roundg (L.length - (j + 1))
                case measure => have := HN.out; omega
                case rel => exact MG.push HM3.out HO3.out HG3.out HOW.out hbelb hlt hO
      · have HF : Hid (O = mrgP L) := Lib.hid (by
          have e := HM.out
          rw [List.drop_of_length_le (by omega)] at e
          simpa [mrg] using e)
        have hj1 : ¬ (j : Int) < L.length := by omega
        go_wp2_with fail
        go_ret
        exact ⟨u3, rfl, by rw [← HF.out]; exact hown, hbel⟩
end Go.Proofs.YtedckphklebndaaGreatDoor
/- The laws' hasText, alike, allAlike, walked. Conditions: rows of at most 2^40 tokens. -/
namespace Go.Proofs.YtedckphklebndaaGreatDoor
open Go Go.RowKit
set_option maxRecDepth 100000 in
set_option maxHeartbeats 2000000 in
theorem hasText_calls (k : Int) (w : World) : Calls Tryz.prog 20 #[.int .i64 k] w fun e w' => e = .returned (.bool (hasT k)) ∧ w = w' := by
  unfold hasT
  cases e29 : (k == 29) with
  | true =>
    go_enter Tryz.func20, Tryz.ntmps20
    go_wp2_with fail
    go_ret
    exact ⟨by simp, rfl⟩
  | false =>
    cases e1 : (k == 1) with
    | true =>
      go_enter Tryz.func20, Tryz.ntmps20
      go_wp2_with fail
      go_ret
      exact ⟨by simp, rfl⟩
    | false =>
      cases e28 : (k == 28) with
      | true =>
        go_enter Tryz.func20, Tryz.ntmps20
        go_wp2_with fail
        go_ret
        exact ⟨by simp, rfl⟩
      | false =>
        cases e27 : (k == 27) with
        | true =>
          go_enter Tryz.func20, Tryz.ntmps20
          go_wp2_with fail
          go_ret
          exact ⟨by simp, rfl⟩
        | false =>
          cases e36 : (k == 36) with
          | true =>
            go_enter Tryz.func20, Tryz.ntmps20
            go_wp2_with fail
            go_ret
            exact ⟨by simp, rfl⟩
          | false =>
            cases e37 : (k == 37) with
            | true =>
              go_enter Tryz.func20, Tryz.ntmps20
              go_wp2_with fail
              go_ret
              exact ⟨by simp, rfl⟩
            | false =>
              go_enter Tryz.func20, Tryz.ntmps20
              go_wp2_with fail
              go_ret
              exact ⟨by simp, rfl⟩
/-- Whether two tokens are alike. -/
def alikeB (p q : PT) : Bool := (p.k == q.k) && (p.id == q.id) && (!hasT p.k || (p.t.toList == q.t.toList)) && ((p.k != 26) || (p.u == q.u))
set_option maxRecDepth 100000 in
set_option maxHeartbeats 8000000 in
theorem alike_calls (p q : PT) (w : World) : Calls Tryz.prog 16 #[.agg #[.int .i64 p.k, .int .i64 p.a, .int .i64 p.b, .int .i64 p.u, .bool p.id, .string p.t], .agg #[.int .i64 q.k, .int .i64 q.a, .int .i64 q.b, .int .i64 q.u, .bool q.id, .string q.t]] w fun e w' => e = .returned (.bool (alikeB p q)) ∧ KeepA w w' := by
  unfold alikeB
  cases e1 : (p.k == q.k) with
  | false =>
    go_enter Tryz.func16, Tryz.ntmps16
    go_wp2_with fail
    go_ret
    exact ⟨by simp, ((Keep.refl _ _).alloc _).alloc _⟩
  | true =>
    cases e2 : (p.id == q.id) with
    | false =>
      go_enter Tryz.func16, Tryz.ntmps16
      go_wp2_with fail
      go_ret
      exact ⟨by simp, ((Keep.refl _ _).alloc _).alloc _⟩
    | true =>
      cases e3 : hasT p.k with
      | true =>
        cases e4 : (p.t.toList == q.t.toList) with
        | false =>
          go_enter Tryz.func16, Tryz.ntmps16
          go_wp2_with (go_at_call 20; refine (hasText_calls _ _).mono ?_; rintro e w' ⟨rfl, rfl⟩)
          go_ret
          exact ⟨by simp, ((Keep.refl _ _).alloc _).alloc _⟩
        | true =>
          cases e5 : (p.k != 26) with
          | true =>
            go_enter Tryz.func16, Tryz.ntmps16
            go_wp2_with (go_at_call 20; refine (hasText_calls _ _).mono ?_; rintro e w' ⟨rfl, rfl⟩)
            go_ret
            exact ⟨by simp, ((Keep.refl _ _).alloc _).alloc _⟩
          | false =>
            go_enter Tryz.func16, Tryz.ntmps16
            go_wp2_with (go_at_call 20; refine (hasText_calls _ _).mono ?_; rintro e w' ⟨rfl, rfl⟩)
            go_ret
            exact ⟨by simp, ((Keep.refl _ _).alloc _).alloc _⟩
      | false =>
        cases e5 : (p.k != 26) with
        | true =>
          go_enter Tryz.func16, Tryz.ntmps16
          go_wp2_with (go_at_call 20; refine (hasText_calls _ _).mono ?_; rintro e w' ⟨rfl, rfl⟩)
          go_ret
          exact ⟨by simp, ((Keep.refl _ _).alloc _).alloc _⟩
        | false =>
          go_enter Tryz.func16, Tryz.ntmps16
          go_wp2_with (go_at_call 20; refine (hasText_calls _ _).mono ?_; rintro e w' ⟨rfl, rfl⟩)
          go_ret
          exact ⟨by simp, ((Keep.refl _ _).alloc _).alloc _⟩
def al2 : List PT → List PT → Bool
  | [], [] => true
  | p :: a, q :: b => alikeB p q && al2 a b
  | _, _ => false
def allAlikeB (a b : List PT) : Bool := al2 (mrgP a) (mrgP b)
theorem al2_len {a b : List PT} (h : a.length ≠ b.length) : al2 a b = false := by
  induction a generalizing b with
  | nil =>
    cases b with
    | nil => exact absurd rfl h
    | cons q b => rfl
  | cons p a ih =>
    cases b with
    | nil => rfl
    | cons q b => simp only [al2]; rw [ih (by simpa using h), Bool.and_false]
theorem mrg_len_le {α : Type} (p : α → Bool) (l : List α) : ∀ w, (mrg p w l).length ≤ l.length := by
  induction l with
  | nil => intro w; exact Nat.le_refl _
  | cons c l ih =>
    intro w
    simp only [mrg]
    split
    · have := ih w; simp only [List.length_cons]; omega
    · have := ih (p c); simp only [List.length_cons]; omega
def AL (w0 : World) (a b : List PT) (n : Nat) (i : Value) (w : World) : Prop :=
  ∃ j : Nat, i = .int .i64 (j : Nat) ∧ n = a.length - j ∧ j ≤ a.length ∧ al2 (a.drop j) (b.drop j) = al2 a b ∧ KeepA w0 w
set_option maxRecDepth 100000 in
set_option maxHeartbeats 8000000 in
theorem allAlike_calls {w : World} {B1 B2 : Nat} {v1 v2 : Value} {a b : List PT} (h1 : Rw w B1 v1 a) (h2 : Rw w B2 v2 b) (ha : a.length ≤ 1099511627776) (hb : b.length ≤ 1099511627776) :
    Calls Tryz.prog 18 #[v1, v2] w fun e w' => e = .returned (.bool (allAlikeB a b)) ∧ Below w.heap.size w w' := by
  unfold allAlikeB
  go_enter Tryz.func18, Tryz.ntmps18
  go_wp2_with fail
  refine (merged_calls h1 ha).mono ?_
  rintro e w1 ⟨u1, rfl, r1, hb1⟩
  have h2' := h2.below hb1
  go_wp2_with fail
  refine (merged_calls h2' hb).mono ?_
  rintro e w2 ⟨u2, rfl, r2, hb2⟩
  have r1' := r1.below hb2
  have hbl : Below w.heap.size w w2 := hb1.trans (hb2.mono hb1.size)
  have hl1 : (mrgP a).length ≤ 1099511627776 := Nat.le_trans (mrg_len_le _ _ _) ha
  obtain ⟨A, hA⟩ : ∃ A, mrgP a = A := ⟨_, rfl⟩
  obtain ⟨C, hC⟩ : ∃ C, mrgP b = C := ⟨_, rfl⟩
  rw [hA] at r1' hl1
  rw [hC] at r2
  have HAA := Lib.hid hA
  have HCC := Lib.hid hC
  clear r1 hA hC h1 h2 h2' hb1 hb2
  by_cases hlen : A.length = C.length
  · have HL := Lib.hid hlen
    have k1 : ((A.length : Int) != C.length) = false := by simp [hlen]
    by_cases hA0 : A = []
    · have hc0 : C = [] := List.length_eq_zero_iff.1 (by rw [← hlen, hA0]; rfl)
      subst hA0 hc0
      clear hlen k1 HL
      have HF : Hid (true = al2 (mrgP a) (mrgP b)) := Lib.hid (by rw [HAA.out, HCC.out]; rfl)
      rcases r1'.parts with ⟨rfl, _⟩ | ⟨g1, cap1, cur1, rfl, _, _, _, _⟩
      all_goals
        rcases r2.parts with ⟨rfl, _⟩ | ⟨g2, cap2, cur2, rfl, _, _, _, _⟩
        all_goals
          go_wp2_with fail
          go_loopg [17] 0 (fun n i wr => i = .int .i64 0 ∧ wr = w2)
          case atStart => exact ⟨rfl, rfl⟩
          case round =>
            obtain ⟨rfl, hw⟩ := hrel
            subst hw
            go_wp2_with fail
            go_ret
            exact ⟨congrArg (fun b => Ending.returned (Value.bool b)) HF.out, hbl⟩
    · rcases r1'.parts with ⟨rfl, h0⟩ | ⟨g1, cap1, cur1, rfl, hB1, hG1, hcap1, hcur1⟩
      · exact absurd h0 hA0
      rcases r2.parts with ⟨rfl, h0⟩ | ⟨g2, cap2, cur2, rfl, hB2, hG2, hcap2, hcur2⟩
      · exact absurd (List.length_eq_zero_iff.1 (by rw [hlen, h0]; rfl)) hA0
      · clear hlen hA0
        go_wp2_with fail
        go_loopg [17] A.length (fun n i wr => AL w2 A C n i wr)
        case atStart => exact ⟨0, rfl, rfl, Nat.zero_le _, rfl, Keep.refl _ _⟩
        case round =>
          obtain ⟨j, rfl, hn, hj, hal, hK⟩ := hrel
          have HN := Lib.hid hn
          have HA := Lib.hid hal
          clear hn hal
          by_cases hlt : j < A.length
          · obtain ⟨p, hp⟩ : ∃ p, A[j]? = some p := ⟨A[j], List.getElem?_eq_getElem hlt⟩
            have hltC : j < C.length := by have := HL.out; omega
            obtain ⟨q, hq⟩ : ∃ q, C[j]? = some q := ⟨C[j], List.getElem?_eq_getElem hltC⟩
            have hGa := hK.blk hG1 (fun x => x)
            have hGc := hK.blk hG2 (fun x => x)
            have x0 : wr.cell? ⟨g1, j * 6, none⟩ = some (.int .i64 p.k) := (blk_cell hGa (j * 6 + 0)).trans (hcur1 j 0 p hp (by decide))
            have x1 : wr.cell? ⟨g1, j * 6 + 1, none⟩ = some (.int .i64 p.a) := (blk_cell hGa (j * 6 + 1)).trans (hcur1 j 1 p hp (by decide))
            have x2 : wr.cell? ⟨g1, j * 6 + 2, none⟩ = some (.int .i64 p.b) := (blk_cell hGa (j * 6 + 2)).trans (hcur1 j 2 p hp (by decide))
            have x3 : wr.cell? ⟨g1, j * 6 + 3, none⟩ = some (.int .i64 p.u) := (blk_cell hGa (j * 6 + 3)).trans (hcur1 j 3 p hp (by decide))
            have x4 : wr.cell? ⟨g1, j * 6 + 4, none⟩ = some (.bool p.id) := (blk_cell hGa (j * 6 + 4)).trans (hcur1 j 4 p hp (by decide))
            have x5 : wr.cell? ⟨g1, j * 6 + 5, none⟩ = some (.string p.t) := (blk_cell hGa (j * 6 + 5)).trans (hcur1 j 5 p hp (by decide))
            have y0 : wr.cell? ⟨g2, j * 6, none⟩ = some (.int .i64 q.k) := (blk_cell hGc (j * 6 + 0)).trans (hcur2 j 0 q hq (by decide))
            have y1 : wr.cell? ⟨g2, j * 6 + 1, none⟩ = some (.int .i64 q.a) := (blk_cell hGc (j * 6 + 1)).trans (hcur2 j 1 q hq (by decide))
            have y2 : wr.cell? ⟨g2, j * 6 + 2, none⟩ = some (.int .i64 q.b) := (blk_cell hGc (j * 6 + 2)).trans (hcur2 j 2 q hq (by decide))
            have y3 : wr.cell? ⟨g2, j * 6 + 3, none⟩ = some (.int .i64 q.u) := (blk_cell hGc (j * 6 + 3)).trans (hcur2 j 3 q hq (by decide))
            have y4 : wr.cell? ⟨g2, j * 6 + 4, none⟩ = some (.bool q.id) := (blk_cell hGc (j * 6 + 4)).trans (hcur2 j 4 q hq (by decide))
            have y5 : wr.cell? ⟨g2, j * 6 + 5, none⟩ = some (.string q.t) := (blk_cell hGc (j * 6 + 5)).trans (hcur2 j 5 q hq (by decide))
            have hj1 : (j : Int) < A.length := by omega
            have hj2 : (0 : Int) ≤ j := by omega
            have hj3 : (j : Int) < C.length := by omega
            have HST : Hid (al2 (A.drop j) (C.drop j) = (alikeB p q && al2 (A.drop (j + 1)) (C.drop (j + 1)))) := Lib.hid (by
              rw [List.drop_eq_getElem_cons hlt, List.drop_eq_getElem_cons hltC]
              rw [List.getElem?_eq_getElem hlt] at hp
              rw [List.getElem?_eq_getElem hltC] at hq
              injection hp with hp
              injection hq with hq
              rw [hp, hq]; rfl)
            clear hp hq hcur1 hcur2
            go_wp2_with fail
            cases hb0 : alikeB p q with
            | true =>
              have HB0 := Lib.hid hb0
              go_region_with (first | (go_at_call 16; refine (alike_calls p q _).mono ?_; rintro e w3 ⟨rfl, hK3⟩; rw [hb0]))
              all_goals
                go_wp2_with fail
                go_roundg (A.length - (j + 1))
                case measure => have := HN.out; omega
                case rel => exact ⟨j + 1, rfl, rfl, by omega, by rw [← HA.out, HST.out, HB0.out, Bool.true_and], (hK.trans ((Keep.refl (fun _ => False) wr).drew)).trans hK3⟩
            | false =>
              have HF : Hid (false = al2 (mrgP a) (mrgP b)) := Lib.hid (by rw [HAA.out, HCC.out, ← HA.out, HST.out, hb0, Bool.false_and])
              go_region_with (first | (go_at_call 16; refine (alike_calls p q _).mono ?_; rintro e w3 ⟨rfl, hK3⟩; rw [hb0]))
              all_goals
                go_wp2_with fail
                go_ret
                exact ⟨congrArg (fun b => Ending.returned (Value.bool b)) HF.out, hbl.trans (((hK.trans ((Keep.refl (fun _ => False) wr).drew)).trans hK3).below hbl.size (fun _ _ e => e.elim))⟩
          · have HF : Hid (true = al2 (mrgP a) (mrgP b)) := Lib.hid (by
              rw [HAA.out, HCC.out, ← HA.out, List.drop_of_length_le (by omega), List.drop_of_length_le (by have := HL.out; omega)]; rfl)
            have hj1 : ¬ (j : Int) < A.length := by omega
            go_wp2_with fail
            go_ret
            exact ⟨congrArg (fun b => Ending.returned (Value.bool b)) HF.out, hbl.trans (hK.below hbl.size (fun _ _ e => e.elim))⟩
  · have k1 : ((A.length : Int) != C.length) = true := by simp only [bne_iff_ne]; omega
    have HL : Hid (al2 A C = false) := Lib.hid (al2_len hlen)
    clear hlen
    have HF : Hid (false = al2 (mrgP a) (mrgP b)) := Lib.hid (by rw [HAA.out, HCC.out, HL.out])
    have hs1 : ∃ p c, u1 = .slice p A.length c := by
      rcases r1'.parts with ⟨e, h0⟩ | ⟨g1, cap1, cur1, e, _, _, _, _⟩
      · exact ⟨none, 0, by rw [e, h0]; rfl⟩
      · exact ⟨_, _, e⟩
    have hs2 : ∃ p c, u2 = .slice p C.length c := by
      rcases r2.parts with ⟨e, h0⟩ | ⟨g1, cap1, cur1, e, _, _, _, _⟩
      · exact ⟨none, 0, by rw [e, h0]; rfl⟩
      · exact ⟨_, _, e⟩
    obtain ⟨p1, q1, rfl⟩ := hs1
    obtain ⟨p2, q2, rfl⟩ := hs2
    go_wp2_with fail
    go_ret
    exact ⟨congrArg (fun b => Ending.returned (Value.bool b)) HF.out, hbl⟩
end Go.Proofs.YtedckphklebndaaGreatDoor
