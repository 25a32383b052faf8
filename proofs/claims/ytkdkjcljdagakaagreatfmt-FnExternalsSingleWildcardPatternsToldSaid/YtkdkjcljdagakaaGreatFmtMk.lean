/-
  The contracts of what stands around the log: a message's data, an added error, a new log, the mock file system over no files; conditions: those that each names.
-/
import Derived.Test.YtkdkjcljdagakaaGreatFmtLog
import Derived.Laws.EntriesVeiled
import Derived.Deep.RegionWith
namespace Go.Proofs.YtkdkjcljdagakaaGreatFmt
open Go.RowKit Go.MuLone

theorem LogAt.kept {B bk bm bu bh n : Nat} {he : Bool} {w w' : World} (h : LogAt B bk bm bu bh he n w) (_hB : B ≤ w.heap.size) (k : Below w.heap.size w w') : LogAt B bk bm bu bh he n w' := by
  obtain ⟨h1, h2, h3, v, xs, h4, h5⟩ := h
  have up : ∀ {b : Nat} {o : Obj}, w.heap[b]? = some o → w'.heap[b]? = some o := fun hb => (k.block _ (Array.getElem?_eq_some_iff.1 hb).1).trans hb
  exact ⟨up h1, up h2, up h3, v, xs, up h4, h5.kept (row := none) ⟨k.os, k.tape, k.output, k.size, fun j hj _ => k.block j hj⟩ (Classical.em _)⟩
theorem below3 (w : World) (o1 o2 o3 : Obj) : Below w.heap.size w (((w.alloc o1).alloc o2).alloc o3) :=
  (((Below.refl _ _).alloc (Nat.le_refl _) _).alloc (sz0 _ _) _).alloc (Nat.le_trans (sz0 _ _) (sz0 _ _)) _
def rng0 : Value := .agg #[.int .i32 0, .int .i32 0]

set_option maxHeartbeats 2000000 in
set_option maxRecDepth 100000 in
theorem loc_nil (w : World) : Calls Tryz.prog 82 #[.pointer none, rng0] w fun e w' => e = .returned (.pointer none) ∧ w' = w.alloc (.cells #[.int .i32 0, .int .i32 0] 99) := by
  unfold rng0
  go_enter Tryz.func82, Tryz.ntmps82
  go_wp2
  go_ret

  exact ⟨rfl, rfl⟩

set_option maxHeartbeats 2000000 in
set_option maxRecDepth 100000 in
theorem data_nil (T : ByteArray) (w : World) : Calls Tryz.prog 56 #[.pointer none, rng0, .string T] w fun e w' => e = .returned (.agg #[.nilIface, .pointer none, .string T, .bool false]) ∧ w' = ((w.alloc (.cells #[.int .i32 0, .int .i32 0] 99)).alloc (.cells #[.nilIface, .pointer none, .string T, .bool false] 73)).alloc (.cells #[.int .i32 0, .int .i32 0] 99) := by
  unfold rng0
  go_enter Tryz.func56, Tryz.ntmps56
  go_wp2_with (go_at_call 82; refine (loc_nil _).mono ?_; rintro e w' ⟨rfl, rfl⟩)
  exact bodyPost_ret (v := .agg #[.nilIface, .pointer none, .string T, .bool false]) (by simp [results, Tryz.results56, go_sem]) rfl ⟨rfl, rfl⟩

theorem data_bel (T : ByteArray) (w : World) : Calls Tryz.prog 56 #[.pointer none, .agg #[.int .i32 0, .int .i32 0], .string T] w fun e w' => e = .returned (.agg #[.nilIface, .pointer none, .string T, .bool false]) ∧ Below w.heap.size w w' :=
  (data_nil T w).mono fun e w' ⟨h1, h2⟩ => ⟨h1, by rw [h2]; exact below3 w _ _ _⟩
theorem LogAt.drewn {B bk bm bu bh n : Nat} {he : Bool} {w : World} (h : LogAt B bk bm bu bh he n w) : LogAt B bk bm bu bh he n w.drew := ⟨h.k, h.u, h.h, h.m⟩
theorem LK.drewn (B bm bu bh : Nat) (w : World) : LK B bm bu bh w w.drew := ⟨rfl, rfl, rfl, Nat.le_refl _, fun _ _ h _ _ _ _ => h⟩
theorem pk (h : Array Obj) (a b c d e : Obj) (i : Nat) : (((((h.push a).push b).push c).push d).push e)[h.size + i]? = ([a, b, c, d, e] : List Obj)[i]? := by
  have e1 : ((((h.push a).push b).push c).push d).push e = h ++ #[a, b, c, d, e] := rfl
  rw [e1, Array.getElem?_append_right (by omega), Nat.add_sub_cancel_left]
  exact (Array.getElem?_toList (xs := #[a, b, c, d, e])).symm

def logV (bk bu bh bm : Nat) : Value := .agg #[.func (.func 23) #[] #[.pointer (some ⟨bk, 0, none⟩), .pointer (some ⟨bu, 0, none⟩), .pointer (some ⟨bh, 0, none⟩), .pointer (some ⟨bm, 0, none⟩)], .func (.func 26) #[] #[.pointer (some ⟨bu, 0, none⟩), .pointer (some ⟨bh, 0, none⟩)], .func (.func 27) #[] #[.pointer (some ⟨bu, 0, none⟩), .pointer (some ⟨bm, 0, none⟩)], .func (.func 28) #[] #[.pointer (some ⟨bu, 0, none⟩), .pointer (some ⟨bm, 0, none⟩)], .int .i8 3, .map none]

set_option maxHeartbeats 2000000 in
set_option maxRecDepth 100000 in
theorem new_log (w : World) : Calls Tryz.prog 19 #[.int .u8 1, .map none] w fun e w' => ∃ bk bu bh bm, e = .returned (logV bk bu bh bm) ∧ LogAt w.heap.size bk bm bu bh false 0 w' ∧ w.heap.size ≤ bm ∧ w.heap.size ≤ bu ∧ w.heap.size ≤ bh ∧ Below w.heap.size w w' := by
  have hmf : ∀ (fn : Fn) (first cap : Array Value) (w : World), (Instr.makeFunc fn first cap).run Tryz.prog w = .ok (.func fn first cap) w := fun _ _ _ _ => rfl
  go_enter Tryz.func19, Tryz.ntmps19
  go_wp2
  refine bodyPost_ret (v := logV w.heap.size (w.heap.size + 3) (w.heap.size + 4) (w.heap.size + 2)) (by simp [results, Tryz.results19, go_sem, logV]) rfl ?_
  refine ⟨w.heap.size, w.heap.size + 3, w.heap.size + 4, w.heap.size + 2, rfl, ⟨?_, ?_, ?_, .slice none 0 0, [], ?_, ?_⟩, by omega, by omega, by omega, ?_⟩
  · exact pk w.heap _ _ _ _ _ 0
  · exact pk w.heap _ _ _ _ _ 3
  · exact pk w.heap _ _ _ _ _ 4
  · exact pk w.heap _ _ _ _ _ 2
  · exact ⟨by simp, .inl ⟨rfl, rfl⟩⟩
  · exact ((below3 w _ _ _).alloc (Nat.le_trans (sz0 _ _) (Nat.le_trans (sz0 _ _) (sz0 _ _))) _).alloc (Nat.le_trans (sz0 _ _) (Nat.le_trans (sz0 _ _) (Nat.le_trans (sz0 _ _) (sz0 _ _)))) _

set_option maxHeartbeats 2000000 in
set_option maxRecDepth 100000 in
theorem add_error (B bk bm bu bh n : Nat) (he : Bool) (T : ByteArray) (w : World) (h : LogAt B bk bm bu bh he n w) (hB : B ≤ w.heap.size) (hn : n ≤ 65536) :
    Calls Tryz.prog 35 #[logV bk bu bh bm, .pointer none, rng0, .string T] w fun e w' => e = .returned (.tuple #[]) ∧ LogAt B bk bm bu bh true (n + 1) w' ∧ LK B bm bu bh w w' := by
  unfold logV rng0
  go_enter Tryz.func35, Tryz.ntmps35
  go_upto_region 1 with fail
  obtain ⟨W, hW⟩ : ∃ W, W = (w.alloc (.cells #[.func (.func 23) #[] #[.pointer (some ⟨bk, 0, none⟩), .pointer (some ⟨bu, 0, none⟩), .pointer (some ⟨bh, 0, none⟩), .pointer (some ⟨bm, 0, none⟩)], .func (.func 26) #[] #[.pointer (some ⟨bu, 0, none⟩), .pointer (some ⟨bh, 0, none⟩)], .func (.func 27) #[] #[.pointer (some ⟨bu, 0, none⟩), .pointer (some ⟨bm, 0, none⟩)], .func (.func 28) #[] #[.pointer (some ⟨bu, 0, none⟩), .pointer (some ⟨bm, 0, none⟩)], .int .i8 3, .map none] 52)).alloc (.cells #[.int .i32 0, .int .i32 0] 99) := ⟨_, rfl⟩
  have hbel : Below w.heap.size w W := by rw [hW]; exact ((Below.refl _ _).alloc (Nat.le_refl _) _).alloc (sz0 _ _) _
  have k0 : W.cell? ⟨w.heap.size, 0, none⟩ = some (.func (.func 23) #[] #[.pointer (some ⟨bk, 0, none⟩), .pointer (some ⟨bu, 0, none⟩), .pointer (some ⟨bh, 0, none⟩), .pointer (some ⟨bm, 0, none⟩)]) := by rw [hW]; go_simp
  have k1 : W.cell? ⟨w.heap.size + 1, 0, none⟩ = some (.int .i32 0) := by rw [hW]; go_simp
  have k2 : W.cell? ⟨w.heap.size + 1, 1, none⟩ = some (.int .i32 0) := by rw [hW]; go_simp
  have hz : w.heap.size + 1 < W.heap.size := by rw [hW]; simp
  rw [← hW]
  have hl := h.kept hB hbel
  have HH := Lib.hid (And.intro hl hbel)
  clear hW hbel hl h
  go_region_with (first | (go_at_call 56; refine (data_bel _ _).mono ?_; rintro e w1 ⟨rfl, hb1⟩; have HB1 := Lib.hid hb1; have k0' := (hb1.cell (p := ⟨w.heap.size, 0, none⟩) (by simp; omega)).trans (by simpa using k0); clear hb1) | (go_at_call 23; refine (addMsg_any B bk bm bu bh n he T _ (by first | exact HH.out.1.kept (by omega) HB1.out | exact HH.out.1.drewn.kept (by simp; omega) HB1.out) (by have := HB1.out.size; simp at this; omega) hn).mono ?_; rintro e w' ⟨rfl, hL, hK⟩))
  all_goals
    have l1 : LK B bm bu bh W w1 := by first | exact LK.below HB1.out | exact (LK.drewn B bm bu bh W).trans (LK.below HB1.out)
    go_wp2_with fail
    go_end0
    exact ⟨rfl, hL, ((LK.below HH.out.2).trans l1).trans hK⟩
end Go.Proofs.YtkdkjcljdagakaaGreatFmt
