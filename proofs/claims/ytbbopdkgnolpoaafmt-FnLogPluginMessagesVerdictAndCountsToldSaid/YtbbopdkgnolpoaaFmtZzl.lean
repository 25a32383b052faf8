/-
  The contract of the law's way into logPluginMessages; conditions: those that it names.
-/
import Derived.Test.YtbbopdkgnolpoaaFmtLpm
namespace Go.Proofs.YtbbopdkgnolpoaaFmt
open Go.RowKit

/-- What the log holds in the end. -/
def endM (name : ByteArray) (ms : List Mg) (ht : Bool) (pb : Nat) (t : ByteArray) : List Mg := ms.map (fixM name) ++ (if ht then [⟨name, some pb, t, 0⟩] else [])
def ZlPost (B bk bm bu bh : Nat) (name : ByteArray) (ms : List Mg) (ht : Bool) (t : ByteArray) (w : World) (e : Ending) (w' : World) : Prop :=
  ∃ he pb, e = .returned (.bool (anyE ms || ht)) ∧ LogAt B bk bm bu bh he (endM name ms ht pb t) w' ∧ LK B bm bu bh w w'

set_option maxHeartbeats 4000000 in
set_option maxRecDepth 100000 in
theorem zzl_any (B bk bm bu bh gm cap : Nat) (name : ByteArray) (ms : List Mg) (n : Nat) (hth : Bool) (t : ByteArray) (w : World) (hlog : LogAt B bk bm bu bh false [] w) (hB : B ≤ w.heap.size) (h1 : B ≤ bm) (h2 : B ≤ bu) (h3 : B ≤ bh)
    (hrow : MRow w gm ms) (hgm : gm < B) (hn : ms.length = n) (hn2 : n ≤ 4096) (hp : ∀ m ∈ ms, Plain m) :
    Calls Tryf.prog 7 #[logV bk bu bh bm, .string name, .slice (some ⟨gm, 0, none⟩) n cap, .bool hth, .string t, .pointer none] w (ZlPost B bk bm bu bh name ms hth t w) := by
  have HA := Lib.hid (And.intro hlog (And.intro hB (And.intro h1 (And.intro h2 (And.intro h3 (And.intro hrow (And.intro hgm (And.intro hn hp))))))))
  clear hlog hB h1 h2 h3 hrow hgm hn hp
  unfold logV
  go_enter Tryf.func7, Tryf.ntmps7
  go_upto_region 2 with fail
  obtain ⟨wa, hwa⟩ : ∃ wa, wa = w.alloc (.cells #[.func (.func 8) #[] #[.pointer (some ⟨bk, 0, none⟩), .pointer (some ⟨bu, 0, none⟩), .pointer (some ⟨bh, 0, none⟩), .pointer (some ⟨bm, 0, none⟩)], .func (.func 11) #[] #[.pointer (some ⟨bu, 0, none⟩), .pointer (some ⟨bh, 0, none⟩)], .func (.func 12) #[] #[.pointer (some ⟨bu, 0, none⟩), .pointer (some ⟨bm, 0, none⟩)], .func (.func 13) #[] #[.pointer (some ⟨bu, 0, none⟩), .pointer (some ⟨bm, 0, none⟩)], .int .i8 3, .map none] 41) := ⟨_, rfl⟩
  have xa : BoxAt bk bu bh bm w.heap.size wa := by rw [hwa]; exact heap_alloc_new w _
  have ba : Below w.heap.size w wa := by rw [hwa]; exact (Below.refl _ _).alloc (Nat.le_refl _) _
  have sa : wa.heap.size = w.heap.size + 1 := by rw [hwa]; simp
  rw [← hwa]
  have b0 := Lib.cell_of_heap xa 0
  have b1 := Lib.cell_of_heap xa 1
  have b2 := Lib.cell_of_heap xa 2
  have b3 := Lib.cell_of_heap xa 3
  have b4 := Lib.cell_of_heap xa 4
  have b5 := Lib.cell_of_heap xa 5
  simp only [List.getElem?_toArray, List.getElem?_cons_zero, List.getElem?_cons_succ] at b0 b1 b2 b3 b4 b5
  have hlt : w.heap.size < wa.heap.size := by omega
  have HB := Lib.hid (And.intro xa (And.intro ba sa))
  clear hwa xa ba sa
  cases hth
  · go_wp2_with (go_at_call 16; refine (lpm_any B bk bm bu bh gm cap name ms n none wa (HA.out.1.kept HB.out.2.1) (by have := HA.out.2.1; omega) HA.out.2.2.1 HA.out.2.2.2.1 HA.out.2.2.2.2.1 (HA.out.2.2.2.2.2.1.below HB.out.2.1 (by have := HA.out.2.1; have := HA.out.2.2.2.2.2.2.1; omega)) HA.out.2.2.2.2.2.2.1 HA.out.2.2.2.2.2.2.2.1 hn2 HA.out.2.2.2.2.2.2.2.2 (fun b t h => by cases h)).mono ?_; rintro e w3 ⟨he, rfl, hl3, hk3⟩)
    go_ret
    exact ⟨he, 0, by simp, by simpa [thM, endM] using hl3, (LK.below HB.out.2.1).trans hk3⟩
  · go_upto_region 4 with (go_at_call 15; refine (errNew_any t _).mono ?_; rintro e wl ⟨rfl, rfl⟩)
    have hb2 : Below wa.heap.size wa (wa.alloc (.cells #[.string t] 70)) := (Below.refl _ _).alloc (Nat.le_refl _) _
    have hb02 := HB.out.2.1.trans (hb2.mono (by omega))
    go_wp2_with (go_at_call 16; refine (lpm_any B bk bm bu bh gm cap name ms n (some (wa.heap.size, t)) _ (HA.out.1.kept hb02) (by have := HA.out.2.1; simp; omega) HA.out.2.2.1 HA.out.2.2.2.1 HA.out.2.2.2.2.1 (HA.out.2.2.2.2.2.1.below hb02 (by have := HA.out.2.1; have := HA.out.2.2.2.2.2.2.1; omega)) HA.out.2.2.2.2.2.2.1 HA.out.2.2.2.2.2.2.2.1 hn2 HA.out.2.2.2.2.2.2.2.2 (fun b t h => by cases h; exact heap_alloc_new wa _)).mono ?_; rintro e w3 ⟨he, rfl, hl3, hk3⟩)
    go_ret
    exact ⟨he, wa.heap.size, by simp, by simpa [thM, endM] using hl3, (LK.below hb02).trans hk3⟩
end Go.Proofs.YtbbopdkgnolpoaaFmt
