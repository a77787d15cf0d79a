/- What the laws' walks share. No condition. -/
import Derived.Test.YtedckphklebndaaGreatDoorQGZ0
import Derived.Test.YtedckphklebndaaGreatDoorQGL3
import Derived.Test.YtedckphklebndaaGreatDoorQGT0
namespace Go.Proofs.YtedckphklebndaaGreatDoor
open Go Go.RowKit
/-- What a law's call leaves. -/
def LawP (w : World) (e : Ending) (w' : World) : Prop := e = .returned (.bool true) ∧ Below w.heap.size w w'
theorem Keep.law {w w1 : World} (h : KeepA w w1) : Below w.heap.size w w1 := h.below (Nat.le_refl _) (fun _ _ e => e.elim)
/-- The tables stand. -/
theorem tabs_below {w w1 : World} (h : Lib.Utf8Tabs 0 1 w) (k : Below w.heap.size w w1) : Lib.Utf8Tabs 0 1 w1 := tabs_keep h (Keep.of_below k (fun _ => False)) (fun e => e) (fun e => e)
theorem below_more {w w1 w2 : World} (h : Below w.heap.size w w1) (k : Below w1.heap.size w1 w2) : Below w.heap.size w w2 := h.trans (Below.low k h.size)
theorem wakes_at {w w1 : World} (h2 : 2 ≤ w.heap.size) (htab : Lib.Utf8Tabs 0 1 w) (k : Below w.heap.size w w1) : Calls Tryz.prog 10 #[] w1 fun e w' => e = .returned (.bool true) ∧ Below w.heap.size w w' :=
  (wakes_calls (w := w1) (Nat.le_trans h2 k.size) (tabs_below htab k)).mono fun _ _ h => ⟨h.1, below_more k h.2⟩
/-- What the package reads, for the laws. -/
theorem Tokens_at {w w1 : World} {s : ByteArray} {l : List Int} (h : Sfx s l) (h0 : ps s l = 0) (hs : s.size ≤ 524288) (hbom : hd l ≠ 65279) (ho : (toks l).2 = false) (h2 : 2 ≤ w.heap.size) (htab : Lib.Utf8Tabs 0 1 w) (k : Below w.heap.size w w1) :
    Calls Tryz.prog 12 #[.string s] w1 (T12P w1 s l) := Tokens12_calls h h0 hs hbom ho (Nat.le_trans h2 k.size) (tabs_below htab k)
def spP : PT := ⟨38, 0, 0, 0, false, ⟨#[]⟩⟩
theorem Rw.one {w : World} {k B : Nat} (h : w.heap[k]? = some (.cells #[.int .i64 38, .int .i64 0, .int .i64 0, .int .i64 0, .bool false, .string ⟨#[]⟩] 28 (0, 0))) (hB : B ≤ k) : Rw w B (.slice (some ⟨k, 0, none⟩) 1 1) [spP] := ⟨rfl, .inr ⟨k, 1, _, rfl, hB, h, Nat.le_refl _, by decide, by decide, rfl⟩⟩
theorem below_blk {B k : Nat} {w w1 : World} {o : Obj} (h : Below B w w1) (hk : w.heap[k]? = some o) (hB : k < B) : w1.heap[k]? = some o := (h.block k hB).trans hk
theorem merged_of {w w1 : World} {s : ByteArray} {l : List Int} {v : Value} {L : List PT} (hfa : Fa2 (PR s) (ptoks l) L) (ho : (toks l).2 = false) {B : Nat} (h : Rw w B v L) (hl : (ptoks l).length ≤ 1099511627776) (hk : w = w1) : Calls Tryz.prog 11 #[v] w1 fun e w' => ∃ v', e = .returned v' ∧ Rw w' w1.heap.size v' L ∧ Below w1.heap.size w1 w' := by
  subst hk
  have e := merged_calls h (by rw [← hfa.len]; exact hl)
  rw [PR.merged hfa ho] at e
  exact e
theorem Rw.alloc {w : World} {B : Nat} {v : Value} {L : List PT} (h : Rw w B v L) (o : Obj) : Rw (w.alloc o) B v L := World.ownsRow.alloc h o
theorem Rw.apart {w w' : World} {B : Nat} {v x : Value} {C : List PT} (h : Rw w B x C) (hg : w.grownBy w' v.ownBlock) (hlt : ∀ k, v.ownBlock = some k → k < B) : Rw w' B x C :=
  (Keep.of_grown hg (fun k => v.ownBlock = some k) (fun _ e => e)).own h (fun k e hk => by have := (h.lt k e).1; have := hlt k hk; omega)
theorem Wh.wt {s : ByteArray} {l : List Int} (h : Wh s l) : Wt s l := by
  have e := h.1.bytes
  rw [h.2.1, List.drop_zero] at e
  exact ⟨e, h.1.all⟩
theorem Wh.few {s : ByteArray} {l : List Int} (h : Wh s l) : (ptoks l).length ≤ 32768 := by
  have h1 := ptoks_len l
  have h2 := encs_ge l
  have h3 := h.1.fits
  have := h.2.2.2.2
  omega
theorem Fa2.few {s t : ByteArray} {l : List Int} {L : List PT} (h : Fa2 (PR s) (ptoks l) L) (hS : Sfx t l) {n : Nat} (hs : t.size ≤ n) : L.length ≤ n := by
  have h1 := ptoks_len l
  have h2 := encs_ge l
  have h3 := hS.fits
  have h4 := h.len
  omega
theorem wt_app {s t : ByteArray} {l m : List Int} (h : Wt s l) (k : Wt t m) : Wt (s ++ t) (l ++ m) :=
  ⟨by rw [ByteArray.data_append, Array.toList_append, h.by_, k.by_, encs_append], h.all.append k.all⟩
theorem wt_ascii (x : List UInt8) (l : List Int) (h : encs l = x) (hr : RnAll l) : Wt ⟨x.toArray⟩ l := ⟨by rw [h], hr⟩
theorem rn_ascii {l : List Int} (h : ∀ c ∈ l, 1 ≤ c ∧ c < 128) : RnAll l := fun c hc => by have := h c hc; exact ⟨by omega, by omega, by omega⟩
end Go.Proofs.YtedckphklebndaaGreatDoor
